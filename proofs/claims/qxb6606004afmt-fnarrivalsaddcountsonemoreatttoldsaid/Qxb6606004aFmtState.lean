import Derived.Test.Qxb6606004aFmtPlain
import Derived.Deep.AppendLies
/-! The record in memory. No program in sight. -/
namespace Go.Proofs.Qxb6606004aFmt
open Go.RowKit

theorem ownsRow_lt {w : World} {B e s n : Nat} {v : Value} {xs : List Value} (h : w.ownsRow B e s v n xs) {g : Nat} (hg : v.ownBlock = some g) : g < w.heap.size ∧ B ≤ g ∧ ∃ cur, w.heap[g]? = some (.cells cur e (0, 0)) := by
  rcases h.2 with ⟨rfl, _⟩ | ⟨g', cap, cur, rfl, hb, hgg, _⟩
  · cases hg
  · have : g' = g := by simpa [Value.ownBlock] using hg
    subst this
    refine ⟨?_, hb, cur, hgg⟩
    rcases Nat.lt_or_ge g' w.heap.size with hlt | hge
    · exact hlt
    · rw [Array.getElem?_eq_none hge] at hgg; cases hgg

/-- An owned row hangs on its own block alone. -/
theorem ownsRow_of_block {w w' : World} {B e s n : Nat} {v : Value} {xs : List Value} (h : w.ownsRow B e s v n xs) (hk : ∀ g, v.ownBlock = some g → w'.heap[g]? = w.heap[g]?) : w'.ownsRow B e s v n xs := by
  obtain ⟨h1, h2⟩ := h
  refine ⟨h1, ?_⟩
  rcases h2 with h2 | ⟨g, cap, cur, rfl, hb, hg, h3⟩
  · exact .inl h2
  · exact .inr ⟨g, cap, cur, rfl, hb, by rw [hk g rfl]; exact hg, h3⟩

/-- A struct of three cells at block S, its two rows among the blocks from B on: the record of arrivals. -/
structure ArrAt (B S : Nat) (v0 v1 : Value) (xs us : List Int) (f : Int) (w : World) : Prop where
  c0 : w.cell? ⟨S, 0, none⟩ = some v0
  c1 : w.cell? ⟨S, 1, none⟩ = some v1
  c2 : w.cell? ⟨S, 2, none⟩ = some (.int .i64 f)
  z0 : w.frozen? ⟨S, 0, none⟩ = false
  z1 : w.frozen? ⟨S, 1, none⟩ = false
  r0 : w.ownsRow B 52 1 v0 xs.length (xs.map (Value.int .i64))
  r1 : w.ownsRow B 3 1 v1 us.length (us.map (Value.int .i64))
  n0 : v0.ownBlock ≠ some S
  n1 : v1.ownBlock ≠ some S
  sB : B ≤ S

/-- The two rows lie in two blocks: their element types part. -/
theorem ArrAt.apart {B S : Nat} {v0 v1 : Value} {xs us : List Int} {f : Int} {w : World} (h : ArrAt B S v0 v1 xs us f w) {g : Nat} (h0 : v0.ownBlock = some g) : v1.ownBlock ≠ some g := by
  intro h1
  obtain ⟨_, _, cur, hc⟩ := ownsRow_lt h.r0 h0
  obtain ⟨_, _, cur', hc'⟩ := ownsRow_lt h.r1 h1
  rw [hc] at hc'
  simp at hc'

theorem ArrAt.sLt {B S : Nat} {v0 v1 : Value} {xs us : List Int} {f : Int} {w : World} (h : ArrAt B S v0 v1 xs us f w) : S < w.heap.size := block_lt h.c0

/-- Whatever leaves all that lay in w unturned leaves the record. -/
theorem ArrAt.later {B S : Nat} {v0 v1 : Value} {xs us : List Int} {f : Int} {w w' : World} (h : ArrAt B S v0 v1 xs us f w) (hb : Below w.heap.size w w') : ArrAt B S v0 v1 xs us f w' where
  c0 := by rw [hb.cell h.sLt, h.c0]
  c1 := by rw [hb.cell h.sLt, h.c1]
  c2 := by rw [hb.cell h.sLt, h.c2]
  z0 := by rw [hb.frozen h.sLt, h.z0]
  z1 := by rw [hb.frozen h.sLt, h.z1]
  r0 := ownsRow_of_block h.r0 (fun g hg => hb.block g (ownsRow_lt h.r0 hg).1)
  r1 := ownsRow_of_block h.r1 (fun g hg => hb.block g (ownsRow_lt h.r1 hg).1)
  n0 := h.n0
  n1 := h.n1
  sB := h.sB

/-- Nothing of w has turned but blocks S, and those of v0's and v1's rows. -/
structure Touch (S : Nat) (v0 v1 : Value) (w w' : World) : Prop where
  os : w'.os = w.os
  tape : w'.tape = w.tape
  output : w'.output = w.output
  size : w.heap.size ≤ w'.heap.size
  block : ∀ k, k < w.heap.size → k ≠ S → v0.ownBlock ≠ some k → v1.ownBlock ≠ some k → w'.heap[k]? = w.heap[k]?

theorem Touch.below {B S : Nat} {v0 v1 : Value} {xs us : List Int} {f : Int} {w w' : World} (h : Touch S v0 v1 w w') (hA : ArrAt B S v0 v1 xs us f w) : Below B w w' :=
  ⟨h.os, h.tape, h.output, h.size, fun k hk => h.block k (Nat.lt_of_lt_of_le hk (Nat.le_of_lt (Nat.lt_of_le_of_lt hA.sB hA.sLt))) (fun e => by have := hA.sB; omega) (fun e => by have := (ownsRow_lt hA.r0 e).2.1; omega) (fun e => by have := (ownsRow_lt hA.r1 e).2.1; omega)⟩

theorem ownsRow_row {w : World} {B e : Nat} {a : Option Addr} {n c : Nat} {xs : List Int} (hn : xs.length = n) (h : w.ownsRow B e 1 (.slice a n c) n (xs.map (Value.int .i64))) : RowAt w a xs := by
  rcases h.2 with ⟨hv, h0⟩ | ⟨g, cap, cur, hv, _⟩
  · exact .inl (List.eq_nil_of_length_eq_zero (by omega))
  · simp at hv
    obtain ⟨rfl, rfl⟩ := hv
    exact RowAt.owned hn h

theorem ownsRow_form {w : World} {B e n : Nat} {v : Value} {xs : List Value} (h : w.ownsRow B e 1 v n xs) : ∃ a c, v = .slice a n c ∧ (a = none → c = 0) ∧ (∀ x, a = some x → ∃ g, x = ⟨g, 0, none⟩) := by
  rcases h.2 with ⟨rfl, rfl⟩ | ⟨g, cap, cur, rfl, _⟩
  · exact ⟨none, 0, rfl, (fun _ => rfl), (fun x h => by cases h)⟩
  · exact ⟨_, _, rfl, (fun h => by cases h), (fun x h => ⟨g, by cases h; rfl⟩)⟩
end Go.Proofs.Qxb6606004aFmt
