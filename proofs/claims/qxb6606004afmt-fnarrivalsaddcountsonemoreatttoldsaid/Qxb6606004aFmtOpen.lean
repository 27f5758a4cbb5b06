import Derived.Test.Qxb6606004aFmtPlain
import Derived.ProofKit
import Derived.OpenShut
import Derived.Deep.Slices
/-! The arguments opened: a slice of int64s, a slice of float64s. No program in sight. -/
namespace Go.Proofs.Qxb6606004aFmt
open Go.RowKit Go.ChangeShapes Go.WideShapes Go.ChangeAt Go.Deep

theorem trod_float {H : Type} {enc : TypeId × Value → H} {P : Program} {w : World} {base : Nat} {spare : Nat → Bool} {held : Bool} {fuel : Nat} {t : TypeId} {cs : List Value} {x : DataW H × List MemPlace} {k : FloatKind}
    (ht : P.underlying t = some (.float k)) (h : DataW.trod enc P w base spare held fuel t cs = some x) : ∃ b, cs = [.float k b] := by
  cases fuel with
  | zero => simp [DataW.trod] at h
  | succ n =>
    unfold DataW.trod at h
    rw [ht] at h
    split at h <;> simp_all

theorem open_row {H : Type} {enc : TypeId × Value → H} {P : Program} {w : World} {t e : TypeId} {fuel : Nat} {a : Option Addr} {len cap : Nat} {x : DataW H × List MemPlace}
    (ht : P.underlying t = some (.slice e)) (he : P.underlying e = some (.int .i64)) (hc : P.cellsOf e = 1) (h : DataW.trod enc P w 0 (fun _ => true) true fuel t [.slice a len cap] = some x) :
    ∃ xs : List Int, xs.length = len ∧ RowAt w a xs ∧ (a = none → cap = 0) ∧ ∀ n ∈ xs, (Lit.int .i64 n).wf = true := by
  rcases open_ints ht he hc h with ⟨hcs, _⟩ | ⟨ad, l, c, zs, hcs, _, hl, hm, hz, _, hcell, hwz⟩
  · simp at hcs
    obtain ⟨rfl, rfl, rfl⟩ := hcs
    exact ⟨[], rfl, .inl rfl, fun _ => rfl, fun n hn => by cases hn⟩
  · simp at hcs
    obtain ⟨rfl, rfl, rfl⟩ := hcs
    simp at hz
    refine ⟨zs.take len, by simp; omega, ?_, (fun h => by cases h), fun n hn => hwz n (List.mem_of_mem_take hn)⟩
    by_cases hp : 0 < zs.length
    · obtain ⟨b, off, rfl, hc'⟩ := ints_at hcell hp
      refine .inr ⟨b, off, rfl, fun i hi => ?_⟩
      have hi' : i < len := by simp at hi; omega
      rw [hc' i (by omega)]
      simp [List.getD, hi']
    · left
      have : zs = [] := List.eq_nil_of_length_eq_zero (by omega)
      rw [this]; simp

theorem open_rowF {H : Type} {enc : TypeId × Value → H} {P : Program} {w : World} {t e : TypeId} {fuel : Nat} {a : Option Addr} {len cap : Nat} {x : DataW H × List MemPlace}
    (ht : P.underlying t = some (.slice e)) (he : P.underlying e = some (.float .f64)) (hc : P.cellsOf e = 1) (h : DataW.trod enc P w 0 (fun _ => true) true fuel t [.slice a len cap] = some x) :
    ∃ xs : List Nat, xs.length = len ∧ RowAtF w a xs ∧ (a = none → cap = 0) := by
  rcases open_slice1 ht hc h with ⟨hcs, _⟩ | ⟨ad, l, c, m, n, V, D, Pl, hcs, _, hl, hm, hmm, _, hcell⟩
  · simp at hcs
    obtain ⟨rfl, rfl, rfl⟩ := hcs
    exact ⟨[], rfl, .inl rfl, fun _ => rfl⟩
  · simp at hcs
    obtain ⟨rfl, rfl, rfl⟩ := hcs
    simp at hmm
    subst hmm
    refine ⟨(List.range len).map (fun i => match V i with | .float _ b => b | _ => 0), by simp, ?_, fun h => by cases h⟩
    have hV : ∀ i, i < len → w.cell? (ad.add i) = some (.float .f64 (((List.range len).map (fun i => match V i with | .float _ b => b | _ => 0)).getD i 0)) := fun i hi => by
      obtain ⟨h1, h2⟩ := hcell i (by omega)
      obtain ⟨b, hb⟩ := trod_float he h2
      simp at hb
      rw [h1, hb]
      simp [List.getD, hi, hb]
    by_cases hp : 0 < len
    · obtain ⟨b, off, spot⟩ := ad
      have hspot : spot = none := by simpa [Addr.add] using World.cell?_spot (hV 0 hp)
      subst hspot
      refine .inr ⟨b, off, rfl, fun i hi => ?_⟩
      rw [← add_plain]
      exact hV i (by simpa using hi)
    · left
      have : len = 0 := by omega
      subst this; rfl
end Go.Proofs.Qxb6606004aFmt
