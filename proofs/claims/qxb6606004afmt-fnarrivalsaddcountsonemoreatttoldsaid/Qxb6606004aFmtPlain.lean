import Derived.WalkKit
/-! Plain lists: what the loops gather. No program in sight. -/
namespace Go.Proofs.Qxb6606004aFmt
open Go.RowKit

/-- A row that is filled from the left: the first k of 'vs', then 'z'. -/
def fillTo (vs : List Value) (z : Value) (k : Nat) : List Value := vs.take k ++ List.replicate (vs.length - k) z

theorem fillTo_zero (vs : List Value) (z : Value) : fillTo vs z 0 = List.replicate vs.length z := by simp [fillTo]

theorem fillTo_all (vs : List Value) (z : Value) : fillTo vs z vs.length = vs := by simp [fillTo]

theorem fillTo_length (vs : List Value) (z : Value) (k : Nat) (h : k ≤ vs.length) : (fillTo vs z k).length = vs.length := by
  simp [fillTo]; omega

theorem fillTo_at (vs : List Value) (z : Value) (k : Nat) (h : k < vs.length) : (fillTo vs z k)[k]? = some z := by
  have h1 : (vs.take k).length = k := by simp; omega
  rw [fillTo, List.getElem?_append_right (by omega), h1, Nat.sub_self, List.getElem?_replicate, if_pos (by omega)]

theorem fillTo_set (vs : List Value) (z : Value) (k : Nat) (h : k < vs.length) : (fillTo vs z k).set k (vs[k]) = fillTo vs z (k + 1) := by
  have h1 : (vs.take k).length = k := by simp; omega
  have h2 : vs.length - k = (vs.length - (k + 1)) + 1 := by omega
  rw [fillTo, fillTo, List.set_append_right _ _ (by omega), h1, Nat.sub_self, h2, List.replicate_succ, List.set_cons_zero, List.take_succ_eq_append_getElem h, List.append_assoc]
  rfl

/-- A slice that came in, or that was made: its elements are the int64s xs. -/
def RowAt (w : World) (a : Option Addr) (xs : List Int) : Prop :=
  xs = [] ∨ ∃ b off, a = some ⟨b, off, none⟩ ∧ ∀ i, i < xs.length → w.cell? ⟨b, off + i, none⟩ = some (.int .i64 (xs.getD i 0))

/-- The same, of float64s by their bits. -/
def RowAtF (w : World) (a : Option Addr) (xs : List Nat) : Prop :=
  xs = [] ∨ ∃ b off, a = some ⟨b, off, none⟩ ∧ ∀ i, i < xs.length → w.cell? ⟨b, off + i, none⟩ = some (.float .f64 (xs.getD i 0))

theorem block_lt {w : World} {b o : Nat} {v : Value} (h : w.cell? ⟨b, o, none⟩ = some v) : b < w.heap.size := World.block_lt_of_cell? _ _ h

theorem RowAt.later {w w' : World} {B : Nat} {a : Option Addr} {xs : List Int} (h : RowAt w a xs) (hB : B = w.heap.size) (hb : Below B w w') : RowAt w' a xs := by
  subst hB
  rcases h with h | ⟨b, off, rfl, hc⟩
  · exact .inl h
  · exact .inr ⟨b, off, rfl, fun i hi => by rw [hb.cell (block_lt (hc i hi)), hc i hi]⟩

theorem RowAtF.later {w w' : World} {B : Nat} {a : Option Addr} {xs : List Nat} (h : RowAtF w a xs) (hB : B = w.heap.size) (hb : Below B w w') : RowAtF w' a xs := by
  subst hB
  rcases h with h | ⟨b, off, rfl, hc⟩
  · exact .inl h
  · exact .inr ⟨b, off, rfl, fun i hi => by rw [hb.cell (block_lt (hc i hi)), hc i hi]⟩

theorem RowAt.at {w : World} {a : Option Addr} {xs : List Int} (h : RowAt w a xs) {n k : Nat} (hn : xs.length = n) (hk : k < n) :
    ∃ b off, a = some ⟨b, off, none⟩ ∧ b < w.heap.size ∧ w.cell? ⟨b, off + k, none⟩ = some (.int .i64 (xs.getD k 0)) := by
  rcases h with rfl | ⟨b, off, rfl, hc⟩
  · simp at hn; omega
  · exact ⟨b, off, rfl, block_lt (hc k (by omega)), hc k (by omega)⟩

theorem RowAtF.at {w : World} {a : Option Addr} {xs : List Nat} (h : RowAtF w a xs) {n k : Nat} (hn : xs.length = n) (hk : k < n) :
    ∃ b off, a = some ⟨b, off, none⟩ ∧ b < w.heap.size ∧ w.cell? ⟨b, off + k, none⟩ = some (.float .f64 (xs.getD k 0)) := by
  rcases h with rfl | ⟨b, off, rfl, hc⟩
  · simp at hn; omega
  · exact ⟨b, off, rfl, block_lt (hc k (by omega)), hc k (by omega)⟩

/-- ONE ROUND OF A COPY: the k-th cell of a row of the call's own is there, not frozen; with the k-th value stored the row is filled one further. -/
theorem owns_step {wr : World} {base e g n cap : Nat} {vs : List Value} {z u : Value} {k : Nat} (hn : vs.length = n) (hk : k < n) (hu : vs[k]? = some u)
    (hown : wr.ownsRow base e 1 (.slice (some ⟨g, 0, none⟩) n cap) n (fillTo vs z k)) :
    wr.cell? ⟨g, k, none⟩ = some z ∧ wr.frozen? ⟨g, k, none⟩ = false ∧ (wr.setCell ⟨g, k, none⟩ u).ownsRow base e 1 (.slice (some ⟨g, 0, none⟩) n cap) n (fillTo vs z (k + 1)) := by
  subst hn
  refine ⟨by rw [hown.cellAt k (by omega), fillTo_at _ _ _ hk], hown.frozenAt k, ?_⟩
  have h := (hown.stored k u).1
  have hu' : u = vs[k] := by rw [List.getElem?_eq_getElem hk] at hu; exact (Option.some.inj hu).symm
  rw [hu', fillTo_set _ _ _ hk] at h
  rw [hu']
  exact h

theorem getD_some (xs : List Int) (k n : Nat) (hn : xs.length = n) (h : k < n) : (xs.map (Value.int .i64))[k]? = some (.int .i64 (xs.getD k 0)) := by
  subst hn
  rw [List.getElem?_map, List.getElem?_eq_getElem h]
  simp [List.getD, h]

theorem getD_someF (xs : List Nat) (k n : Nat) (hn : xs.length = n) (h : k < n) : (xs.map (Value.float .f64))[k]? = some (.float .f64 (xs.getD k 0)) := by
  subst hn
  rw [List.getElem?_map, List.getElem?_eq_getElem h]
  simp [List.getD, h]

/-- What a finished copy is good for. -/
theorem RowAt.owned {w : World} {base e g n cap : Nat} {xs : List Int} (hn : xs.length = n) (h : w.ownsRow base e 1 (.slice (some ⟨g, 0, none⟩) n cap) n (xs.map (Value.int .i64))) : RowAt w (some ⟨g, 0, none⟩) xs :=
  .inr ⟨g, 0, rfl, fun i hi => by rw [Nat.zero_add, h.cellAt i (by omega), getD_some xs i n hn (by omega)]⟩

theorem RowAtF.owned {w : World} {base e g n cap : Nat} {xs : List Nat} (hn : xs.length = n) (h : w.ownsRow base e 1 (.slice (some ⟨g, 0, none⟩) n cap) n (xs.map (Value.float .f64))) : RowAtF w (some ⟨g, 0, none⟩) xs :=
  .inr ⟨g, 0, rfl, fun i hi => by rw [Nat.zero_add, h.cellAt i (by omega), getD_someF xs i n hn (by omega)]⟩

/-- 'nondecreasing': what the Go text computes: no step down from place 1 on, looked at from the left. -/
def nondecTo (xs : List Int) (k : Nat) : Bool := (List.range k).all fun i => decide (xs.getD i 0 ≤ xs.getD (i + 1) 0)
def nondec (xs : List Int) : Bool := nondecTo xs (xs.length - 1)

theorem nondecTo_succ (xs : List Int) (k : Nat) : nondecTo xs (k + 1) = (nondecTo xs k && decide (xs.getD k 0 ≤ xs.getD (k + 1) 0)) := by
  simp [nondecTo, List.range_succ]

theorem nondecTo_at {xs : List Int} {k i : Nat} (h : nondecTo xs k = true) (hi : i < k) : xs.getD i 0 ≤ xs.getD (i + 1) 0 := by
  simp only [nondecTo, List.all_eq_true, List.mem_range, decide_eq_true_eq] at h
  exact h i hi

theorem nondecTo_false {xs : List Int} {k m : Nat} (h : nondecTo xs k = false) (hm : k ≤ m) : nondecTo xs m = false := by
  cases hh : nondecTo xs m with
  | false => rfl
  | true =>
    have : nondecTo xs k = true := by
      simp only [nondecTo, List.all_eq_true, List.mem_range, decide_eq_true_eq] at hh ⊢
      exact fun i hi => hh i (by omega)
    rw [h] at this; cases this

theorem nondec_le {xs : List Int} (h : nondec xs = true) {i j : Nat} (hij : i ≤ j) (hj : j < xs.length) : xs.getD i 0 ≤ xs.getD j 0 := by
  induction j with
  | zero => have : i = 0 := by omega
            subst this; exact Int.le_refl _
  | succ j ih =>
    by_cases e : i = j + 1
    · subst e; exact Int.le_refl _
    · exact Int.le_trans (ih (by omega) (by omega)) (nondecTo_at h (by omega))

/-- 'strictreasing': what the Go text computes: no step down from place 1 on, looked at from the left. -/
def strictTo (xs : List Int) (k : Nat) : Bool := (List.range k).all fun i => decide (xs.getD i 0 < xs.getD (i + 1) 0)
def strict (xs : List Int) : Bool := strictTo xs (xs.length - 1)

theorem strictTo_succ (xs : List Int) (k : Nat) : strictTo xs (k + 1) = (strictTo xs k && decide (xs.getD k 0 < xs.getD (k + 1) 0)) := by
  simp [strictTo, List.range_succ]

theorem strictTo_at {xs : List Int} {k i : Nat} (h : strictTo xs k = true) (hi : i < k) : xs.getD i 0 < xs.getD (i + 1) 0 := by
  simp only [strictTo, List.all_eq_true, List.mem_range, decide_eq_true_eq] at h
  exact h i hi

theorem strictTo_false {xs : List Int} {k m : Nat} (h : strictTo xs k = false) (hm : k ≤ m) : strictTo xs m = false := by
  cases hh : strictTo xs m with
  | false => rfl
  | true =>
    have : strictTo xs k = true := by
      simp only [strictTo, List.all_eq_true, List.mem_range, decide_eq_true_eq] at hh ⊢
      exact fun i hi => hh i (by omega)
    rw [h] at this; cases this

theorem strict_lt {xs : List Int} (h : strict xs = true) {i j : Nat} (hij : i < j) (hj : j < xs.length) : xs.getD i 0 < xs.getD j 0 := by
  induction j with
  | zero => omega
  | succ j ih =>
    have h1 := strictTo_at h (i := j) (by omega)
    by_cases e : i = j
    · subst e; exact h1
    · exact Int.lt_trans (ih (by omega) (by omega)) h1

theorem strict_nondec {xs : List Int} (h : strict xs = true) : nondec xs = true := by
  simp only [strict, strictTo, nondec, nondecTo, List.all_eq_true, List.mem_range, decide_eq_true_eq] at h ⊢
  exact fun i hi => Int.le_of_lt (h i hi)

theorem hide {p : Prop} (h : p) : Hid p := h

/-- A list whose first r elements meet p and whose others do not: r meet it. -/
theorem countP_at (p : Int → Bool) : ∀ (xs : List Int) (r : Nat), r ≤ xs.length → (∀ i, i < r → p (xs.getD i 0) = true) → (∀ i, r ≤ i → i < xs.length → p (xs.getD i 0) = false) → xs.countP p = r
  | [], r, hr, _, _ => by simp at hr; simp [hr]
  | a :: xs, 0, _, _, h2 => by
    have ha : p a = false := by simpa using h2 0 (Nat.le_refl _) (by simp)
    rw [List.countP_cons_of_neg (by simp [ha])]
    exact countP_at p xs 0 (Nat.zero_le _) (fun i hi => absurd hi (Nat.not_lt_zero _)) (fun i _ hi => by simpa using h2 (i + 1) (Nat.zero_le _) (by simpa using hi))
  | a :: xs, r + 1, hr, h1, h2 => by
    have ha : p a = true := by simpa using h1 0 (by omega)
    rw [List.countP_cons_of_pos ha]
    rw [countP_at p xs r (by simpa using hr) (fun i hi => by simpa using h1 (i + 1) (by omega)) (fun i hri hi => by simpa using h2 (i + 1) (by omega) (by simpa using hi))]

/-- How many of the first k elements meet p. -/
def countTo (p : Int → Bool) (xs : List Int) (k : Nat) : Nat := (xs.take k).countP p

theorem countTo_succ (p : Int → Bool) (xs : List Int) (k : Nat) (h : k < xs.length) : countTo p xs (k + 1) = countTo p xs k + if p (xs.getD k 0) = true then 1 else 0 := by
  unfold countTo
  rw [List.take_succ_eq_append_getElem h, List.countP_append]
  have e : xs.getD k 0 = xs[k] := by simp [List.getD, h]
  rw [e]
  by_cases hp : p xs[k] = true <;> simp [hp]

theorem countTo_le (p : Int → Bool) (xs : List Int) (k : Nat) : countTo p xs k ≤ k := by
  unfold countTo
  exact Nat.le_trans List.countP_le_length (List.length_take_le _ _)

theorem countTo_all (p : Int → Bool) (xs : List Int) (k : Nat) (h : xs.length = k) : countTo p xs k = xs.countP p := by
  unfold countTo
  rw [List.take_of_length_le (by omega)]

/-- In a nondecreasing list those at or before t stand ahead of all others. -/
theorem countP_nondec (xs : List Int) (t : Int) (hs : nondec xs = true) :
    xs.countP (fun x => decide (x ≤ t)) ≤ xs.length ∧ (∀ i, i < xs.countP (fun x => decide (x ≤ t)) → xs.getD i 0 ≤ t) ∧ (∀ i, xs.countP (fun x => decide (x ≤ t)) ≤ i → i < xs.length → t < xs.getD i 0) := by
  have key : ∃ r, r ≤ xs.length ∧ (∀ i, i < r → xs.getD i 0 ≤ t) ∧ (∀ i, r ≤ i → i < xs.length → t < xs.getD i 0) := by
    have : ∀ m, m ≤ xs.length → ∃ r, r ≤ m ∧ (∀ i, i < r → xs.getD i 0 ≤ t) ∧ (∀ i, r ≤ i → i < m → t < xs.getD i 0) := by
      intro m
      induction m with
      | zero => exact fun _ => ⟨0, Nat.le_refl _, fun i hi => absurd hi (Nat.not_lt_zero _), fun i _ hi => absurd hi (Nat.not_lt_zero _)⟩
      | succ m ih =>
        intro hm
        obtain ⟨r, hr, h1, h2⟩ := ih (by omega)
        by_cases hx : xs.getD m 0 ≤ t
        · refine ⟨m + 1, Nat.le_refl _, fun i hi => ?_, fun i h3 h4 => by omega⟩
          exact Int.le_trans (nondec_le hs (show i ≤ m by omega) (by omega)) hx
        · refine ⟨r, by omega, h1, fun i h3 h4 => ?_⟩
          by_cases e : i = m
          · subst e; omega
          · exact h2 i h3 (by omega)
    exact this xs.length (Nat.le_refl _)
  obtain ⟨r, hr, h1, h2⟩ := key
  have e : xs.countP (fun x => decide (x ≤ t)) = r := countP_at _ xs r hr (fun i hi => by simpa using h1 i hi) (fun i h3 h4 => by simpa using h2 i h3 h4)
  rw [e]
  exact ⟨hr, h1, h2⟩

end Go.Proofs.Qxb6606004aFmt
