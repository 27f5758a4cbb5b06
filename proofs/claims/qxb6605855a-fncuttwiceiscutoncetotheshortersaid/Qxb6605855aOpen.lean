import Derived.Test.Qxb6605855aMem
import Derived.Test.Qxb6605855aRows
import Derived.Deep.Fields
import Derived.Deep.Slices
import Derived.ProofKit
import Derived.OpenShut
/-! The arguments opened: a row of runs, a row of entries. -/
namespace Go.Proofs.Qxb6605855a
open Go.ChangeShapes Go.WideShapes Go.ChangeAt Go.Deep Go.RowKit

theorem row_fields {H : Type} {enc : TypeId × Value → H} {P : Program} {w : World} {t e : TypeId} {fs : Array Field} {fuel : Nat} {a : Option Addr} {len cap : Nat} {x : DataW H × List MemPlace}
    (ht : P.underlying t = some (.slice e)) (he : P.underlying e = some (.struct fs)) (hone : oneCellFields P fs = true) (ce : P.cellsOf e = fs.size) (h : DataW.trod enc P w 0 (fun _ => true) true fuel t [.slice a len cap] = some x) :
    (a = none ∧ len = 0 ∧ cap = 0) ∨ ∃ ad n, a = some ad ∧ ∃ V : Nat → Nat → Value, ∀ i, i < len → ∀ j f, fs[j]? = some f → w.cell? (ad.add (i * fs.size + j)) = some (V i j) ∧ ∃ y, DataW.trod enc P w 0 (fun _ => true) true n f.type [V i j] = some y := by
  rcases open_slice ht h with ⟨hcs, _⟩ | ⟨ad, l, c, m, n, D, Pl, hcs, _, hl, hm, hmm, _, hx⟩
  · simp at hcs
    exact .inl hcs
  · simp at hcs
    obtain ⟨rfl, rfl, rfl⟩ := hcs
    simp at hmm
    subst hmm
    refine .inr ⟨ad, n - 1, rfl, fun i j => (w.cell? (ad.add (i * fs.size + j))).getD undef, fun i hi j f hf => ?_⟩
    obtain ⟨cs', h1, h2⟩ := hx i (by omega)
    rw [ce] at h1
    obtain ⟨_, hlen, hcell⟩ := World.cells?_some h1
    obtain ⟨xs, k, hk, _, _, hxl, hff⟩ := DataW.trod_struct he h2
    obtain rfl : k = n - 1 := by omega
    have hlt : j < fs.size := (Array.getElem?_eq_some_iff.1 hf).1
    obtain ⟨ho, hc1⟩ := hone_of hone j f hf
    have g := hff j f hf
    rw [ho, hc1, take1_drop cs' j undef (by omega), List.getElem?_eq_getElem (by omega)] at g
    have e1 := hcell j hlt
    rw [add_add, List.getElem?_eq_getElem (by omega)] at e1
    have e2 : cs'.getD j undef = cs'[j]'(by omega) := by simp [List.getD, List.getElem?_eq_getElem (show j < cs'.length by omega)]
    have e3 : (w.cell? (ad.add (i * fs.size + j))).getD undef = cs'.getD j undef := by rw [e1, e2]; rfl
    refine ⟨?_, xs[j]'(by omega), ?_⟩
    · show _ = some ((w.cell? (ad.add (i * fs.size + j))).getD undef)
      rw [e3, e2]; exact e1
    · show DataW.trod enc P w 0 (fun _ => true) true (n - 1) f.type [(w.cell? (ad.add (i * fs.size + j))).getD undef] = _
      rw [e3]; exact g

theorem int_of_trod {H : Type} {enc : TypeId × Value → H} {P : Program} {w : World} {t : TypeId} {k : IntKind} {fuel : Nat} {v : Value} (ht : P.underlying t = some (.int k)) (h : ∃ y, DataW.trod enc P w 0 (fun _ => true) true fuel t [v] = some y) : v = .int k (intOf v) := by
  obtain ⟨y, h⟩ := h
  obtain ⟨n, hn, _⟩ := DataW.trod_int ht h
  simp at hn
  rw [hn]
  rfl

theorem open_runs {H : Type} {enc : TypeId × Value → H} {w : World} {fuel : Nat} {a : Option Addr} {len cap : Nat} {x : DataW H × List MemPlace} (h : DataW.trod enc Try.prog w 0 (fun _ => true) true fuel 32 [.slice a len cap] = some x) :
    ∃ rs : List (Int × Int), rs.length = len ∧ RunsAt (fun k => k < w.heap.size) w a rs ∧ (a = none → cap = 0) := by
  rcases row_fields Try.underlying32 Try.underlying56 (by kernel_rfl) (by kernel_rfl) h with ⟨rfl, rfl, rfl⟩ | ⟨ad, n, rfl, V, hV⟩
  · exact ⟨[], rfl, .inl rfl, fun _ => rfl⟩
  · refine ⟨(List.range len).map fun i => (intOf (V i 0), intOf (V i 1)), by simp, ?_, fun h => by cases h⟩
    by_cases hp : 0 < len
    · obtain ⟨b, off, spot⟩ := ad
      have hspot : spot = none := by simpa [Addr.add] using World.cell?_spot (hV 0 hp 0 _ rfl).1
      subst hspot
      have hr : RunsAt (fun _ => True) w (some ⟨b, off, none⟩) ((List.range len).map fun i => (intOf (V i 0), intOf (V i 1))) := by
        refine .inr ⟨b, off, rfl, trivial, fun i hi => ?_⟩
        rw [List.length_map, List.length_range] at hi
        have hg : ((List.range len).map fun i => (intOf (V i 0), intOf (V i 1))).getD i (0, 0) = (intOf (V i 0), intOf (V i 1)) := by simp [List.getD, hi]
        rw [hg]
        obtain ⟨c0, t0⟩ := hV i hi 0 _ rfl
        obtain ⟨c1, t1⟩ := hV i hi 1 _ rfl
        rw [add_plain] at c0 c1
        refine ⟨?_, ?_⟩
        · rw [← int_of_trod Try.underlying22 t0]; exact c0
        · rw [← int_of_trod Try.underlying22 t1]; exact c1
      exact hr.bound.mono (fun k hk => hk.2)
    · obtain rfl : len = 0 := by omega
      exact .inl rfl

theorem open_bytes {H : Type} {enc : TypeId × Value → H} {w : World} {fuel : Nat} {v : Value} (h : ∃ y, DataW.trod enc Try.prog w 0 (fun _ => true) true fuel 49 [v] = some y) :
    ∃ (pa : Option Addr) (bs : List Int) (pc : Nat), v = .slice pa bs.length pc ∧ BytesAt (fun _ => True) w pa bs ∧ (pa = none → pc = 0) := by
  obtain ⟨y, h⟩ := h
  rcases open_slice1 Try.underlying49 (by kernel_rfl) h with ⟨hcs, _⟩ | ⟨ad, len, cap, m, n, V, D, Pl, hcs, _, hl, hm, hmm, _, hcell⟩
  · simp at hcs
    exact ⟨none, [], 0, hcs, .inl rfl, fun _ => rfl⟩
  · simp at hcs
    simp at hmm
    subst hmm
    refine ⟨some ad, (List.range len).map fun i => intOf (V i), m, by rw [hcs]; simp, ?_, fun h => by cases h⟩
    by_cases hp : 0 < len
    · obtain ⟨b, off, spot⟩ := ad
      have hspot : spot = none := by simpa [Addr.add] using World.cell?_spot (hcell 0 (by omega)).1
      subst hspot
      refine .inr ⟨b, off, rfl, trivial, fun i hi => ?_⟩
      rw [List.length_map, List.length_range] at hi
      have hg : ((List.range len).map fun i => intOf (V i)).getD i 0 = intOf (V i) := by simp [List.getD, hi]
      obtain ⟨c0, t0⟩ := hcell i (by omega)
      rw [add_plain] at c0
      rw [hg, ← int_of_trod Try.underlying5 ⟨_, t0⟩]
      exact c0
    · obtain rfl : len = 0 := by omega
      exact .inl rfl

theorem open_ents {H : Type} {enc : TypeId × Value → H} {w : World} {fuel : Nat} {a : Option Addr} {len cap : Nat} {x : DataW H × List MemPlace} (h : DataW.trod enc Try.prog w 0 (fun _ => true) true fuel 33 [.slice a len cap] = some x) :
    ∃ es : List Ent, es.length = len ∧ EntsAt (fun k => k < w.heap.size) false w a es ∧ (a = none → cap = 0) := by
  rcases row_fields Try.underlying33 Try.underlying54 (by kernel_rfl) (by kernel_rfl) h with ⟨rfl, rfl, rfl⟩ | ⟨ad, n, rfl, V, hV⟩
  · exact ⟨[], rfl, .inl rfl, fun _ => rfl⟩
  · by_cases hp : 0 < len
    · obtain ⟨b, off, spot⟩ := ad
      have hspot : spot = none := by simpa [Addr.add] using World.cell?_spot (hV 0 hp 0 _ rfl).1
      subst hspot
      have each : ∀ i, i < len → ∃ e : Ent, ∃ pa pc, EntAt (fun _ => True) w b (off + i * 8) e pa pc := by
        intro i hi
        obtain ⟨c0, t0⟩ := hV i hi 0 _ rfl
        obtain ⟨c1, t1⟩ := hV i hi 1 _ rfl
        obtain ⟨c2, t2⟩ := hV i hi 2 _ rfl
        obtain ⟨c3, t3⟩ := hV i hi 3 _ rfl
        obtain ⟨c4, t4⟩ := hV i hi 4 _ rfl
        obtain ⟨c5, t5⟩ := hV i hi 5 _ rfl
        obtain ⟨c6, t6⟩ := hV i hi 6 _ rfl
        obtain ⟨c7, t7⟩ := hV i hi 7 _ rfl
        rw [add_plain] at c0 c1 c2 c3 c4 c5 c6 c7
        obtain ⟨pa, bs, pc, hv4, hby, hnil⟩ := open_bytes t4
        refine ⟨⟨intOf (V i 0), intOf (V i 1), intOf (V i 2), intOf (V i 3), intOf (V i 5), intOf (V i 6), intOf (V i 7), bs⟩, pa, pc, ?_, ?_, ?_, ?_, ?_, ?_, ?_, ?_, hby, hnil⟩
        · show _ = some (Value.int .u64 (intOf (V i 0))); rw [← int_of_trod Try.underlying22 t0]; exact c0
        · show _ = some (Value.int .u64 (intOf (V i 1))); rw [← int_of_trod Try.underlying22 t1]; exact c1
        · show _ = some (Value.int .u64 (intOf (V i 2))); rw [← int_of_trod Try.underlying22 t2]; exact c2
        · show _ = some (Value.int .u64 (intOf (V i 3))); rw [← int_of_trod Try.underlying22 t3]; exact c3
        · show _ = some (Value.slice pa bs.length pc); rw [← hv4]; exact c4
        · show _ = some (Value.int .u64 (intOf (V i 5))); rw [← int_of_trod Try.underlying22 t5]; exact c5
        · show _ = some (Value.int .u64 (intOf (V i 6))); rw [← int_of_trod Try.underlying22 t6]; exact c6
        · show _ = some (Value.int .u64 (intOf (V i 7))); rw [← int_of_trod Try.underlying22 t7]; exact c7
      have dflt : Inhabited Ent := ⟨noEnt⟩
      obtain ⟨E, hE⟩ := choose_lt each
      refine ⟨(List.range len).map E, by simp, ?_, fun h => by cases h⟩
      have hr : EntsAt (fun _ => True) false w (some ⟨b, off, none⟩) ((List.range len).map E) := by
        refine .inr ⟨b, off, rfl, trivial, fun i hi => ?_⟩
        rw [List.length_map, List.length_range] at hi
        have hg : ((List.range len).map E).getD i noEnt = E i := by simp [List.getD, hi]
        rw [hg]
        obtain ⟨pa, pc, hh⟩ := hE i hi
        exact ⟨pa, pc, hh, fun h => by cases h⟩
      exact hr.bound.mono (fun k hk => hk.2)
    · obtain rfl : len = 0 := by omega
      exact ⟨[], rfl, .inl rfl, fun h => by cases h⟩
end Go.Proofs.Qxb6605855a
