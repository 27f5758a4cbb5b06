import Derived.Test.Qxb6606004aFmtWalkF
import Derived.Test.Qxb6606004aFmtRuns
namespace Go.Proofs.Qxb6606004aFmt
open Go.RowKit

/-- One count of the record written anew. -/
theorem ArrAt.put {B S g1 n c1 m : Nat} {v0 : Value} {xs us : List Int} {f u : Int} {w : World} (h : ArrAt B S v0 (.slice (some ⟨g1, 0, none⟩) n c1) xs us f w) (hun : us.length = n) :
    ArrAt B S v0 (.slice (some ⟨g1, 0, none⟩) n c1) xs (us.set m u) f (w.setCell ⟨g1, m, none⟩ (.int .i64 u)) ∧ Touch S v0 (.slice (some ⟨g1, 0, none⟩) n c1) w (w.setCell ⟨g1, m, none⟩ (.int .i64 u)) := by
  have hg : g1 ≠ S := fun e => h.n1 (by simp [Value.ownBlock, e])
  have hne : ∀ i, (⟨g1, m, none⟩ : Addr) ≠ ⟨S, i, none⟩ := fun i e => by injection e with e _ _; exact hg e
  have hset : ∀ k, k ≠ g1 → (w.setCell ⟨g1, m, none⟩ (.int .i64 u)).heap[k]? = w.heap[k]? := fun k hk => Below.heap_setCell _ _ _ _ hk
  refine ⟨⟨?_, ?_, ?_, ?_, ?_, ?_, ?_, h.n0, h.n1, h.sB⟩, ⟨rfl, rfl, rfl, by simp, fun k _ _ _ e => hset k (fun e' => e (by simp [Value.ownBlock, e']))⟩⟩
  · rw [World.cell?_setCell_other _ _ _ _ (hne 0), h.c0]
  · rw [World.cell?_setCell_other _ _ _ _ (hne 1), h.c1]
  · rw [World.cell?_setCell_other _ _ _ _ (hne 2), h.c2]
  · rw [World.frozen?_setCell, h.z0]
  · rw [World.frozen?_setCell, h.z1]
  · exact ownsRow_of_block h.r0 (fun k hk => hset k (fun e => h.apart hk (by simp [Value.ownBlock, e])))
  · have hr := h.r1
    rw [hun] at hr
    have := (hr.stored m (.int .i64 u)).1
    rw [List.length_set, hun, List.map_set]
    exact this

/-- A row that is not empty has an address of its own. -/
theorem ownsRow_some {w : World} {B e m c : Nat} {a : Option Addr} {xs : List Value} (h : w.ownsRow B e 1 (.slice a (m + 1) c) (m + 1) xs) : ∃ g, a = some ⟨g, 0, none⟩ ∧ ∀ j, j < m + 1 → w.cell? ⟨g, j, none⟩ = xs[j]? ∧ w.frozen? ⟨g, j, none⟩ = false := by
  rcases h.2 with ⟨_, h0⟩ | ⟨g, cap, cur, hv, _⟩
  · omega
  · cases hv
    exact ⟨g, rfl, fun j hj => ⟨h.cellAt j (by omega), h.frozenAt j⟩⟩

theorem add_step (B S : Nat) (v0 v1 : Value) (ts : List Int) (k : Nat) (w : World) (hA : ArrAt B S v0 v1 (runT ts k) (runU ts k) 0 w) (hs : nondec ts = true) (hk : k < ts.length) (hlen : ts.length ≤ 131072) :
    Calls Tryf.prog 12 #[.pointer (some ⟨S, 0, none⟩), .int .i64 (ts.getD k 0)] w fun e w' => e = .returned (.tuple #[]) ∧ ∃ v0' v1', ArrAt B S v0' v1' (runT ts (k + 1)) (runU ts (k + 1)) 0 w' ∧ Below B w w' := by
  have hl := sel_length ts k
  obtain ⟨a0, c0, rfl, _, _⟩ := ownsRow_form hA.r0
  obtain ⟨a1, c1, rfl, _, _⟩ := ownsRow_form hA.r1
  rw [runT_length, runU_length] at hA
  by_cases h : k = 0 ∨ ts.getD k 0 ≠ ts.getD (k - 1) 0
  · obtain ⟨h1, h2⟩ := runT_step hs hk h
    have hp := prevAt_run ts k
    refine (add12_new B S c0 c1 (sel ts k).length a0 a1 (runT ts k) (runU ts k) 0 (ts.getD k 0) w hA (runT_length ts k) (runU_length ts k) (by omega) h1 h2 (by rw [hp]; omega) (by rw [hp]; omega)).mono ?_
    rintro e w' ⟨rfl, a0', c0', a1', c1', hA', hT⟩
    rw [hp, ← runT_new ts k h, ← runU_new ts k h] at hA'
    exact ⟨rfl, _, _, hA', hT.below hA⟩
  · obtain ⟨j, rfl⟩ : ∃ j, k = j + 1 := ⟨k - 1, by omega⟩
    have he : ts.getD (j + 1) 0 = ts.getD j 0 := by simpa using fun e => h (.inr e)
    obtain ⟨e1, e2, e3, e4, e5, e6⟩ := run_same he
    have hr0 := hA.r0
    have hr1 := hA.r1
    rw [e3] at hA
    rw [runT_length, e3] at hr0
    rw [runU_length, e3] at hr1
    obtain ⟨g0, rfl, k0⟩ := ownsRow_some hr0
    obtain ⟨g1, rfl, k1⟩ := ownsRow_some hr1
    have t0 := (k0 (ends ts j).length (Nat.lt_succ_self _)).1
    have t1 := (k1 (ends ts j).length (Nat.lt_succ_self _)).1
    rw [getD_some _ _ _ (runT_length ts (j + 1)) (by rw [e3]; exact Nat.lt_succ_self _), e4] at t0
    rw [getD_some _ _ _ (runU_length ts (j + 1)) (by rw [e3]; exact Nat.lt_succ_self _), e5] at t1
    refine (add12_same S g0 g1 (ends ts j).length c0 c1 (ts.getD (j + 1) 0) ((j : Int) + 1) w (by omega) hA.c0 hA.c1 t0 t1 (k1 (ends ts j).length (Nat.lt_succ_self _)).2 (by omega) (by omega)).mono ?_
    rintro e w' ⟨rfl, rfl⟩
    obtain ⟨hA', hT⟩ := hA.put (m := (ends ts j).length) (u := (j : Int) + 1 + 1) (by rw [runU_length, e3])
    rw [← e6, ← e2] at hA'
    exact ⟨rfl, _, _, hA', hT.below hA⟩
end Go.Proofs.Qxb6606004aFmt
