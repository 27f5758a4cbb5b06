import Derived.Test.Qxb6606004aFmtPlain
import Derived.Test.Qxb6606004aFmtWalkC
/-! The runs of a nondecreasing list: where each ends, its time, how many stand at or before it. Plain lists. -/
namespace Go.Proofs.Qxb6606004aFmt

/-- The places below k behind which the list steps. -/
def ends (ts : List Int) (k : Nat) : List Nat := (List.range k).filter fun i => decide (ts.getD (i + 1) 0 ≠ ts.getD i 0)
/-- The last places of the runs of the first k elements. -/
def sel (ts : List Int) (k : Nat) : List Nat := if k = 0 then [] else ends ts (k - 1) ++ [k - 1]
def runT (ts : List Int) (k : Nat) : List Int := (sel ts k).map fun i => ts.getD i 0
def runU (ts : List Int) (k : Nat) : List Int := (sel ts k).map fun (i : Nat) => (i : Int) + 1
/-- What the law itself gathers, k rounds on. -/
def wsel (ts : List Int) (n k : Nat) : List Nat := (List.range k).filter fun i => decide (i + 1 = n) || decide (ts.getD (i + 1) 0 ≠ ts.getD i 0)

theorem ends_succ (ts : List Int) (k : Nat) : ends ts (k + 1) = ends ts k ++ if ts.getD (k + 1) 0 ≠ ts.getD k 0 then [k] else [] := by
  unfold ends
  rw [List.range_succ, List.filter_append]
  by_cases h : ts.getD (k + 1) 0 = ts.getD k 0
  · rw [if_neg (by simpa using h), List.filter_cons_of_neg (by simpa using h), List.filter_nil]
  · rw [if_pos h, List.filter_cons_of_pos (by simpa using h), List.filter_nil]

theorem sel_zero (ts : List Int) : sel ts 0 = [] := rfl
theorem sel_succ (ts : List Int) (k : Nat) : sel ts (k + 1) = ends ts k ++ [k] := by simp [sel]
theorem sel_new (ts : List Int) (k : Nat) (h : k = 0 ∨ ts.getD k 0 ≠ ts.getD (k - 1) 0) : sel ts (k + 1) = sel ts k ++ [k] := by
  rcases k with _ | j
  · rfl
  · have h' : ts.getD (j + 1) 0 ≠ ts.getD j 0 := by rcases h with h | h; omega; exact h
    rw [sel_succ, sel_succ, ends_succ, if_pos h']

theorem ends_lt (ts : List Int) (k : Nat) : ∀ i ∈ ends ts k, i < k := fun i hi => by
  simp only [ends, List.mem_filter, List.mem_range] at hi
  exact hi.1
theorem sel_lt (ts : List Int) (k : Nat) : ∀ i ∈ sel ts k, i < k := fun i hi => by
  rcases k with _ | j
  · cases hi
  · rw [sel_succ, List.mem_append] at hi
    rcases hi with hi | hi
    · have := ends_lt ts j i hi; omega
    · simp at hi; omega
theorem sel_pair (ts : List Int) (k : Nat) : (sel ts k).Pairwise (· < ·) := by
  rcases k with _ | j
  · exact List.Pairwise.nil
  · rw [sel_succ, List.pairwise_append]
    refine ⟨List.Pairwise.filter _ List.pairwise_lt_range, List.pairwise_singleton _ _, fun a ha b hb => ?_⟩
    simp at hb
    have := ends_lt ts j a ha
    omega
theorem sel_length (ts : List Int) (k : Nat) : (sel ts k).length ≤ k := by
  rcases k with _ | j
  · exact Nat.le_refl _
  · rw [sel_succ, List.length_append]
    have : (ends ts j).length ≤ j := by
      have := List.length_filter_le (fun i => decide (ts.getD (i + 1) 0 ≠ ts.getD i 0)) (List.range j)
      simpa [ends] using this
    simp; omega

theorem runT_length (ts : List Int) (k : Nat) : (runT ts k).length = (sel ts k).length := by simp [runT]
theorem runU_length (ts : List Int) (k : Nat) : (runU ts k).length = (sel ts k).length := by simp [runU]

theorem nondec_map {L : List Nat} {g : Nat → Int} {m : Nat} (hp : L.Pairwise (· < ·)) (hl : ∀ i ∈ L, i < m) (hm : ∀ a b, a ≤ b → b < m → g a ≤ g b) : nondec (L.map g) = true := by
  simp only [nondec, nondecTo, List.all_eq_true, List.mem_range, decide_eq_true_eq, List.length_map]
  intro i hi
  rw [List.pairwise_iff_getElem] at hp
  have h1 := hp i (i + 1) (by omega) (by omega) (by omega)
  have h2 := hm _ _ (Nat.le_of_lt h1) (hl _ (List.getElem_mem _))
  simpa [List.getD, show i < L.length by omega, show i + 1 < L.length by omega] using h2

theorem runT_new (ts : List Int) (k : Nat) (h : k = 0 ∨ ts.getD k 0 ≠ ts.getD (k - 1) 0) : runT ts (k + 1) = runT ts k ++ [ts.getD k 0] := by simp [runT, sel_new ts k h]
theorem runU_new (ts : List Int) (k : Nat) (h : k = 0 ∨ ts.getD k 0 ≠ ts.getD (k - 1) 0) : runU ts (k + 1) = runU ts k ++ [(k : Int) + 1] := by simp [runU, sel_new ts k h]

theorem prevAt_run (ts : List Int) (k : Nat) : prevAt 0 (runU ts k) (sel ts k).length = (k : Int) := by
  rcases k with _ | j
  · rfl
  · rw [runU, sel_succ]
    simp only [List.length_append, List.length_cons, List.length_nil, List.map_append, List.map_cons, List.map_nil, prevAt_succ]
    rw [List.getD_eq_getElem?_getD, List.getElem?_append_right (by simp)]
    simp

/-- At a new time: the list with it is nondecreasing, and all that went before lies before it. -/
theorem runT_step {ts : List Int} (hs : nondec ts = true) {k : Nat} (hk : k < ts.length) (h : k = 0 ∨ ts.getD k 0 ≠ ts.getD (k - 1) 0) :
    nondec (runT ts k ++ [ts.getD k 0]) = true ∧ ∀ i, i < (sel ts k).length → (runT ts k).getD i 0 < ts.getD k 0 := by
  have hlt : ∀ i ∈ sel ts k, ts.getD i 0 < ts.getD k 0 := fun i hi => by
    have h1 := sel_lt ts k i hi
    rcases h with h | h
    · omega
    · have h2 := nondec_le hs (show i ≤ k - 1 by omega) (by omega)
      have h3 := nondec_le hs (show k - 1 ≤ k by omega) hk
      omega
  refine ⟨?_, fun i hi => ?_⟩
  · rw [← runT_new ts k h]
    exact nondec_map (sel_pair ts (k + 1)) (sel_lt ts (k + 1)) (fun a b hab hb => nondec_le hs hab (by omega))
  · have hm : (sel ts k)[i] ∈ sel ts k := List.getElem_mem hi
    have := hlt _ hm
    simpa [runT, List.getD, hi] using this

/-- At the last recorded time once more. -/
theorem run_same {ts : List Int} {j : Nat} (h : ts.getD (j + 1) 0 = ts.getD j 0) :
    (sel ts (j + 2)).length = (sel ts (j + 1)).length ∧ runT ts (j + 2) = runT ts (j + 1) ∧ (sel ts (j + 1)).length = (ends ts j).length + 1 ∧ (runT ts (j + 1)).getD (ends ts j).length 0 = ts.getD (j + 1) 0 ∧ (runU ts (j + 1)).getD (ends ts j).length 0 = (j : Int) + 1 ∧
      runU ts (j + 2) = (runU ts (j + 1)).set (ends ts j).length ((j : Int) + 1 + 1) := by
  have e2 : sel ts (j + 2) = ends ts j ++ [j + 1] := by rw [sel_succ, ends_succ, if_neg (by simpa using h), List.append_nil]
  have e1 := sel_succ ts j
  refine ⟨by rw [e1, e2]; simp, by simp only [runT, e1, e2, List.map_append, List.map_cons, List.map_nil, h], by rw [e1]; simp, ?_, ?_, ?_⟩
  · rw [runT, e1, List.getD_eq_getElem?_getD, List.map_append, List.getElem?_append_right (by simp), h]
    simp
  · rw [runU, e1, List.getD_eq_getElem?_getD, List.map_append, List.getElem?_append_right (by simp)]
    simp
  · rw [runU, runU, e1, e2, List.map_append, List.map_append, List.set_append_right _ _ (by simp)]
    simp

theorem wsel_succ (ts : List Int) (n k : Nat) : wsel ts n (k + 1) = wsel ts n k ++ if (k + 1 = n ∨ ts.getD (k + 1) 0 ≠ ts.getD k 0) then [k] else [] := by
  unfold wsel
  rw [List.range_succ, List.filter_append]
  by_cases h : k + 1 = n ∨ ts.getD (k + 1) 0 ≠ ts.getD k 0
  · rw [if_pos h, List.filter_cons_of_pos (by simpa only [Bool.or_eq_true, decide_eq_true_eq] using h), List.filter_nil]
  · rw [if_neg h, List.filter_cons_of_neg (by simpa only [Bool.or_eq_true, decide_eq_true_eq] using h), List.filter_nil]

theorem wsel_all (ts : List Int) (n : Nat) : wsel ts n n = sel ts n := by
  rcases n with _ | j
  · rfl
  · rw [wsel_succ, if_pos (.inl rfl), sel_succ]
    congr 1
    unfold wsel ends
    apply List.filter_congr
    intro i hi
    have : i < j := by simpa using hi
    simp; omega

theorem wsel_length (ts : List Int) (n k : Nat) : (wsel ts n k).length ≤ k := by
  have := List.length_filter_le (fun i => decide (i + 1 = n) || decide (ts.getD (i + 1) 0 ≠ ts.getD i 0)) (List.range k)
  simpa [wsel] using this
end Go.Proofs.Qxb6606004aFmt
