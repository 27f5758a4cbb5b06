import Derived.Test.Qxb6606004aFmtState
/-! The two halves of an Add that appends, as lemmas on worlds. No program in sight. -/
namespace Go.Proofs.Qxb6606004aFmt
open Go.RowKit

/-- A row's append, and the field stored: what holds behind. 'fi': the field. -/
theorem half_facts {S fi : Nat} {w w1 : World} {o : Obj} {g : Nat} {row : Option Nat} (hS : S < w.heap.size) (hn : row ≠ some S)
    (hgrow : (w.alloc o).grownBy w1 row) (hat : row = some g ∨ g = w.heap.size + 1) :
    g ≠ S ∧ (∀ k, k < w.heap.size → row ≠ some k → w1.heap[k]? = w.heap[k]?) ∧ (∀ i, w1.cell? ⟨S, i, none⟩ = w.cell? ⟨S, i, none⟩) ∧ (∀ i, w1.frozen? ⟨S, i, none⟩ = w.frozen? ⟨S, i, none⟩) ∧
      (∀ k v, k ≠ S → (w1.setCell ⟨S, fi, none⟩ v).heap[k]? = w1.heap[k]?) ∧ w.heap.size + 1 ≤ w1.heap.size := by
  have hgS : g ≠ S := by
    rcases hat with h | h
    · intro e; subst e; exact hn h
    · omega
  have hfar : ∀ k, k < w.heap.size → row ≠ some k → w1.heap[k]? = w.heap[k]? := fun k hk hne => by
    rw [hgrow.block k (by simp; omega) (fun e => hne e.symm), Below.heap_alloc _ _ _ hk]
  exact ⟨hgS, hfar, fun i => World.cell?_of_block (hfar S hS hn), fun i => World.frozen?_of_block (hfar S hS hn), fun k v hk => Below.heap_setCell _ _ _ _ hk, by have := hgrow.size; simpa using this⟩

theorem cell_ne (S i j : Nat) (h : i ≠ j) : (⟨S, i, none⟩ : Addr) ≠ ⟨S, j, none⟩ := by intro e; injection e with _ e _; exact h e

/-- The first half: the times. -/
theorem half0 {B S n c0 : Nat} {a0 : Option Addr} {v1 : Value} {xs us : List Int} {f t : Int} {w w1 : World} {o : Obj} (hA : ArrAt B S (.slice a0 n c0) v1 xs us f w) (hxn : xs.length = n) {g cap : Nat}
    (hown : w1.ownsRow B 52 1 (.slice (some ⟨g, 0, none⟩) (n + 1) cap) (n + 1) (xs.map (Value.int .i64) ++ [.int .i64 t])) (hgrow : (w.alloc o).grownBy w1 (Value.slice a0 n c0).ownBlock)
    (hat : (Value.slice a0 n c0).ownBlock = some g ∨ g = w.heap.size + 1) :
    ArrAt B S (.slice (some ⟨g, 0, none⟩) (n + 1) cap) v1 (xs ++ [t]) us f (w1.setCell ⟨S, 0, none⟩ (.slice (some ⟨g, 0, none⟩) (n + 1) cap)) ∧
      Touch S (.slice a0 n c0) (.slice a0 n c0) w (w1.setCell ⟨S, 0, none⟩ (.slice (some ⟨g, 0, none⟩) (n + 1) cap)) ∧ w1.cell? ⟨S, 0, none⟩ = some (.slice a0 n c0) ∧ w1.frozen? ⟨S, 0, none⟩ = false := by
  obtain ⟨hgS, hfar, hc, hz, hset, hsz⟩ := half_facts (fi := 0) hA.sLt hA.n0 hgrow hat
  refine ⟨⟨?_, ?_, ?_, ?_, ?_, ?_, ?_, ?_, hA.n1, hA.sB⟩, ⟨?_, ?_, ?_, ?_, ?_⟩, by rw [hc, hA.c0], by rw [hz, hA.z0]⟩
  · exact World.cell?_setCell_same _ _ _ (by rw [hc, hA.c0])
  · rw [World.cell?_setCell_other _ _ _ _ (cell_ne S 0 1 (by omega)), hc, hA.c1]
  · rw [World.cell?_setCell_other _ _ _ _ (cell_ne S 0 2 (by omega)), hc, hA.c2]
  · rw [World.frozen?_setCell, hz, hA.z0]
  · rw [World.frozen?_setCell, hz, hA.z1]
  · refine ownsRow_of_block ?_ (fun k hk => hset k _ (fun e => hgS (by simp [Value.ownBlock] at hk; omega)))
    rw [List.map_append, List.length_append, hxn]
    exact hown
  · refine ownsRow_of_block hA.r1 (fun k hk => ?_)
    rw [hset k _ (fun e => hA.n1 (by rw [hk, e])), hfar k (ownsRow_lt hA.r1 hk).1 (fun e => hA.apart e hk)]
  · intro e; simp [Value.ownBlock] at e; exact hgS e
  · exact hgrow.os
  · exact hgrow.tape
  · exact hgrow.output
  · simp; omega
  · intro k hk h1 h2 _
    rw [hset k _ h1, hfar k hk h2]

/-- The second half: the counts. -/
theorem half1 {B S n c1 : Nat} {a1 : Option Addr} {v0 : Value} {xs us : List Int} {f u : Int} {w w1 : World} {o : Obj} (hA : ArrAt B S v0 (.slice a1 n c1) xs us f w) (hun : us.length = n) {g cap : Nat}
    (hown : w1.ownsRow B 3 1 (.slice (some ⟨g, 0, none⟩) (n + 1) cap) (n + 1) (us.map (Value.int .i64) ++ [.int .i64 u])) (hgrow : (w.alloc o).grownBy w1 (Value.slice a1 n c1).ownBlock)
    (hat : (Value.slice a1 n c1).ownBlock = some g ∨ g = w.heap.size + 1) :
    ArrAt B S v0 (.slice (some ⟨g, 0, none⟩) (n + 1) cap) xs (us ++ [u]) f (w1.setCell ⟨S, 1, none⟩ (.slice (some ⟨g, 0, none⟩) (n + 1) cap)) ∧
      Touch S (.slice a1 n c1) (.slice a1 n c1) w (w1.setCell ⟨S, 1, none⟩ (.slice (some ⟨g, 0, none⟩) (n + 1) cap)) ∧ w1.cell? ⟨S, 1, none⟩ = some (.slice a1 n c1) ∧ w1.frozen? ⟨S, 1, none⟩ = false := by
  obtain ⟨hgS, hfar, hc, hz, hset, hsz⟩ := half_facts (fi := 1) hA.sLt hA.n1 hgrow hat
  refine ⟨⟨?_, ?_, ?_, ?_, ?_, ?_, ?_, hA.n0, ?_, hA.sB⟩, ⟨?_, ?_, ?_, ?_, ?_⟩, by rw [hc, hA.c1], by rw [hz, hA.z1]⟩
  · rw [World.cell?_setCell_other _ _ _ _ (cell_ne S 1 0 (by omega)), hc, hA.c0]
  · exact World.cell?_setCell_same _ _ _ (by rw [hc, hA.c1])
  · rw [World.cell?_setCell_other _ _ _ _ (cell_ne S 1 2 (by omega)), hc, hA.c2]
  · rw [World.frozen?_setCell, hz, hA.z0]
  · rw [World.frozen?_setCell, hz, hA.z1]
  · refine ownsRow_of_block hA.r0 (fun k hk => ?_)
    rw [hset k _ (fun e => hA.n0 (by rw [hk, e])), hfar k (ownsRow_lt hA.r0 hk).1 (hA.apart hk)]
  · refine ownsRow_of_block ?_ (fun k hk => hset k _ (fun e => hgS (by simp [Value.ownBlock] at hk; omega)))
    rw [List.map_append, List.length_append, hun]
    exact hown
  · intro e; simp [Value.ownBlock] at e; exact hgS e
  · exact hgrow.os
  · exact hgrow.tape
  · exact hgrow.output
  · simp; omega
  · intro k hk h1 h2 _
    rw [hset k _ h1, hfar k hk h2]

/-- The two halves, and what lies between them. -/
theorem Touch.both {S : Nat} {v0 v1 : Value} {w w2 w3 w5 : World} (h1 : Touch S v0 v0 w w2) (hb : Below w2.heap.size w2 w3) (h2 : Touch S v1 v1 w3 w5) : Touch S v0 v1 w w5 :=
  ⟨h2.os.trans (hb.os.trans h1.os), h2.tape.trans (hb.tape.trans h1.tape), h2.output.trans (hb.output.trans h1.output), Nat.le_trans h1.size (Nat.le_trans hb.size h2.size), fun k hk e0 e1 e2 => by
    rw [h2.block k (Nat.lt_of_lt_of_le hk (Nat.le_trans h1.size hb.size)) e0 e2 e2, hb.block k (Nat.lt_of_lt_of_le hk h1.size), h1.block k hk e0 e1 e1]⟩
end Go.Proofs.Qxb6606004aFmt
