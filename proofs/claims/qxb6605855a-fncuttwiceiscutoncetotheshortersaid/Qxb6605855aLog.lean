import Derived.Test.Qxb6605855aMem
import Derived.Deep.Draws
/-! The log in memory: six cells of one block. No program in sight. -/
namespace Go.Proofs.Qxb6605855a
open Go.RowKit

/-- Nothing of w has turned but block S. -/
structure Only (S : Nat) (w w' : World) : Prop where
  os : w'.os = w.os
  tape : w'.tape = w.tape
  output : w'.output = w.output
  size : w.heap.size ≤ w'.heap.size
  block : ∀ k, k < w.heap.size → k ≠ S → w'.heap[k]? = w.heap[k]?

theorem Only.refl (S : Nat) (w : World) : Only S w w := ⟨rfl, rfl, rfl, Nat.le_refl _, fun _ _ _ => rfl⟩
theorem Only.trans {S : Nat} {a b c : World} (h : Only S a b) (k : Only S b c) : Only S a c :=
  ⟨k.os.trans h.os, k.tape.trans h.tape, k.output.trans h.output, Nat.le_trans h.size k.size, fun i hi hn => (k.block i (Nat.lt_of_lt_of_le hi h.size) hn).trans (h.block i hi hn)⟩
theorem Only.of_below {S : Nat} {a b : World} (h : Below a.heap.size a b) : Only S a b := ⟨h.os, h.tape, h.output, h.size, fun k hk _ => h.block k hk⟩
theorem Only.put {S : Nat} {a b : World} (h : Only S a b) (j : Nat) (v : Value) : Only S a (b.setCell ⟨S, j, none⟩ v) :=
  h.trans ⟨rfl, rfl, rfl, by simp, fun k _ hk => Below.heap_setCell _ _ _ _ hk⟩
theorem Only.alloc {S : Nat} {a b : World} (h : Only S a b) (o : Obj) : Only S a (b.alloc o) := h.trans (Only.of_below ((Below.refl _ _).alloc (Nat.le_refl _) o))
theorem Only.drew {S : Nat} {a b : World} (h : Only S a b) : Only S a b.drew := h.trans ⟨rfl, rfl, rfl, Nat.le_refl _, fun _ _ _ => rfl⟩
theorem Only.drewN {S : Nat} {a b : World} (h : Only S a b) (q : Nat) : Only S a (b.drewN q) := h.trans ⟨rfl, rfl, rfl, Nat.le_refl _, fun _ _ _ => rfl⟩
theorem Only.below {S B : Nat} {a b : World} (h : Only S a b) (hB : B ≤ a.heap.size) (hS : B ≤ S) : Below B a b := ⟨h.os, h.tape, h.output, h.size, fun k hk => h.block k (by omega) (by omega)⟩
theorem Only.same {S : Nat} {M : Nat → Prop} {a b : World} (h : Only S a b) (hM : ∀ k, M k → k ≠ S) : Same M a b := fun k hk hl => h.block k hl (hM k hk)

/-- The log's cells. -/
structure LogAt (S : Nat) (L r : Int) (vT vR : Value) (K : Int) (w : World) : Prop where
  c0 : w.cell? ⟨S, 0, none⟩ = some (.int .u64 L)
  c1 : w.cell? ⟨S, 1, none⟩ = some (.int .u64 r)
  c2 : w.cell? ⟨S, 2, none⟩ = some vT
  c3 : w.cell? ⟨S, 3, none⟩ = some vR
  c4 : w.cell? ⟨S, 4, none⟩ = some (.int .i64 K)
  z : ∀ j, w.frozen? ⟨S, j, none⟩ = false

theorem LogAt.of_block {S : Nat} {L r K : Int} {vT vR v5 : Value} {t : TypeId} {w : World} (h : w.heap[S]? = some (.cells #[.int .u64 L, .int .u64 r, vT, vR, .int .i64 K, v5] t (0, 0))) : LogAt S L r vT vR K w := by
  have hc : ∀ j, w.cell? ⟨S, j, none⟩ = (#[.int .u64 L, .int .u64 r, vT, vR, .int .i64 K, v5] : Array Value)[j]? := fun j => cell_of_row w S j _ t _ h
  exact ⟨hc 0, hc 1, hc 2, hc 3, hc 4, fun j => by simp [World.frozen?, h]⟩
theorem LogAt.lt {S : Nat} {L r K : Int} {vT vR : Value} {w : World} (h : LogAt S L r vT vR K w) : S < w.heap.size := block_lt h.c0
theorem LogAt.later {S : Nat} {L r K : Int} {vT vR : Value} {w w' : World} (h : LogAt S L r vT vR K w) (hb : w'.heap[S]? = w.heap[S]?) : LogAt S L r vT vR K w' := by
  have hc : ∀ j, w'.cell? ⟨S, j, none⟩ = w.cell? ⟨S, j, none⟩ := fun j => World.cell?_of_block hb
  exact ⟨by rw [hc, h.c0], by rw [hc, h.c1], by rw [hc, h.c2], by rw [hc, h.c3], by rw [hc, h.c4], fun j => by rw [World.frozen?_of_block (a := ⟨S, j, none⟩) hb, h.z j]⟩
theorem LogAt.below {S : Nat} {L r K : Int} {vT vR : Value} {w w' : World} (h : LogAt S L r vT vR K w) (hb : Below w.heap.size w w') : LogAt S L r vT vR K w' := h.later (hb.block S h.lt)
theorem sne (S a b : Nat) (h : a ≠ b) : (⟨S, a, none⟩ : Addr) ≠ ⟨S, b, none⟩ := by intro e; injection e with _ e _; exact h e
theorem LogAt.put0 {S : Nat} {L r K : Int} {vT vR : Value} {w : World} (h : LogAt S L r vT vR K w) (v : Int) : LogAt S v r vT vR K (w.setCell ⟨S, 0, none⟩ (.int .u64 v)) :=
  ⟨World.cell?_setCell_same _ _ _ h.c0, by rw [World.cell?_setCell_other _ _ _ _ (sne S 0 1 (by omega)), h.c1], by rw [World.cell?_setCell_other _ _ _ _ (sne S 0 2 (by omega)), h.c2], by rw [World.cell?_setCell_other _ _ _ _ (sne S 0 3 (by omega)), h.c3], by rw [World.cell?_setCell_other _ _ _ _ (sne S 0 4 (by omega)), h.c4], fun j => by rw [World.frozen?_setCell, h.z j]⟩
theorem LogAt.put2 {S : Nat} {L r K : Int} {vT vR : Value} {w : World} (h : LogAt S L r vT vR K w) (v : Value) : LogAt S L r v vR K (w.setCell ⟨S, 2, none⟩ v) :=
  ⟨by rw [World.cell?_setCell_other _ _ _ _ (sne S 2 0 (by omega)), h.c0], by rw [World.cell?_setCell_other _ _ _ _ (sne S 2 1 (by omega)), h.c1], World.cell?_setCell_same _ _ _ h.c2, by rw [World.cell?_setCell_other _ _ _ _ (sne S 2 3 (by omega)), h.c3], by rw [World.cell?_setCell_other _ _ _ _ (sne S 2 4 (by omega)), h.c4], fun j => by rw [World.frozen?_setCell, h.z j]⟩
theorem LogAt.put3 {S : Nat} {L r K : Int} {vT vR : Value} {w : World} (h : LogAt S L r vT vR K w) (v : Value) : LogAt S L r vT v K (w.setCell ⟨S, 3, none⟩ v) :=
  ⟨by rw [World.cell?_setCell_other _ _ _ _ (sne S 3 0 (by omega)), h.c0], by rw [World.cell?_setCell_other _ _ _ _ (sne S 3 1 (by omega)), h.c1], by rw [World.cell?_setCell_other _ _ _ _ (sne S 3 2 (by omega)), h.c2], World.cell?_setCell_same _ _ _ h.c3, by rw [World.cell?_setCell_other _ _ _ _ (sne S 3 4 (by omega)), h.c4], fun j => by rw [World.frozen?_setCell, h.z j]⟩
theorem LogAt.put4 {S : Nat} {L r K : Int} {vT vR : Value} {w : World} (h : LogAt S L r vT vR K w) (v : Int) : LogAt S L r vT vR v (w.setCell ⟨S, 4, none⟩ (.int .i64 v)) :=
  ⟨by rw [World.cell?_setCell_other _ _ _ _ (sne S 4 0 (by omega)), h.c0], by rw [World.cell?_setCell_other _ _ _ _ (sne S 4 1 (by omega)), h.c1], by rw [World.cell?_setCell_other _ _ _ _ (sne S 4 2 (by omega)), h.c2], by rw [World.cell?_setCell_other _ _ _ _ (sne S 4 3 (by omega)), h.c3], World.cell?_setCell_same _ _ _ h.c4, fun j => by rw [World.frozen?_setCell, h.z j]⟩

theorem EntsAt.take {M : Nat → Prop} {x : Bool} {w : World} {a : Option Addr} {es : List Ent} (h : EntsAt M x w a es) (k : Nat) : EntsAt M x w a (es.take k) := by
  rcases h with rfl | ⟨b, off, ha, hb, hc⟩
  · exact .inl (by simp)
  · refine .inr ⟨b, off, ha, hb, fun i hi => ?_⟩
    have hi' : i < k ∧ i < es.length := by rw [List.length_take] at hi; omega
    have hg : (es.take k).getD i noEnt = es.getD i noEnt := by simp [List.getD, hi'.1]
    rw [hg]
    exact hc i hi'.2
theorem RunsAt.take {M : Nat → Prop} {w : World} {a : Option Addr} {rs : List (Int × Int)} (h : RunsAt M w a rs) (k : Nat) : RunsAt M w a (rs.take k) := by
  rcases h with rfl | ⟨b, off, ha, hb, hc⟩
  · exact .inl (by simp)
  · refine .inr ⟨b, off, ha, hb, fun i hi => ?_⟩
    have hi' : i < k ∧ i < rs.length := by rw [List.length_take] at hi; omega
    have hg : (rs.take k).getD i (0, 0) = rs.getD i (0, 0) := by simp [List.getD, hi'.1]
    rw [hg]
    exact hc i hi'.2
end Go.Proofs.Qxb6605855a
