import Derived.WalkKit
/-! What lies in memory: runs, entries, bytes; in blocks of a chosen set. No program in sight. -/
namespace Go.Proofs.Qxb6605855a
open Go.RowKit

/-- An entry as plain data. -/
structure Ent where
  p : Int
  m : Int
  i : Int
  s : Int
  k : Int
  t : Int
  v : Int
  bs : List Int

def noEnt : Ent := ⟨0, 0, 0, 0, 0, 0, 0, []⟩

/-- The blocks of M that lie in w are as they were. -/
def Same (M : Nat → Prop) (w w' : World) : Prop := ∀ k, M k → k < w.heap.size → w'.heap[k]? = w.heap[k]?

theorem block_lt {w : World} {b o : Nat} {v : Value} (h : w.cell? ⟨b, o, none⟩ = some v) : b < w.heap.size := World.block_lt_of_cell? _ _ h

/-- A slice of bytes. -/
def BytesAt (M : Nat → Prop) (w : World) (a : Option Addr) (bs : List Int) : Prop :=
  bs = [] ∨ ∃ b off, a = some ⟨b, off, none⟩ ∧ M b ∧ ∀ i, i < bs.length → w.cell? ⟨b, off + i, none⟩ = some (.int .u8 (bs.getD i 0))

/-- A slice of runs: two cells each. -/
def RunsAt (M : Nat → Prop) (w : World) (a : Option Addr) (rs : List (Int × Int)) : Prop :=
  rs = [] ∨ ∃ b off, a = some ⟨b, off, none⟩ ∧ M b ∧ ∀ i, i < rs.length → w.cell? ⟨b, off + i * 2, none⟩ = some (.int .u64 (rs.getD i (0, 0)).1) ∧ w.cell? ⟨b, off + i * 2 + 1, none⟩ = some (.int .u64 (rs.getD i (0, 0)).2)

/-- One entry: eight cells; its payload's value and bytes. -/
structure EntAt (M : Nat → Prop) (w : World) (b o : Nat) (e : Ent) (pa : Option Addr) (pc : Nat) : Prop where
  c0 : w.cell? ⟨b, o, none⟩ = some (.int .u64 e.p)
  c1 : w.cell? ⟨b, o + 1, none⟩ = some (.int .u64 e.m)
  c2 : w.cell? ⟨b, o + 2, none⟩ = some (.int .u64 e.i)
  c3 : w.cell? ⟨b, o + 3, none⟩ = some (.int .u64 e.s)
  c4 : w.cell? ⟨b, o + 4, none⟩ = some (.slice pa e.bs.length pc)
  c5 : w.cell? ⟨b, o + 5, none⟩ = some (.int .u64 e.k)
  c6 : w.cell? ⟨b, o + 6, none⟩ = some (.int .u64 e.t)
  c7 : w.cell? ⟨b, o + 7, none⟩ = some (.int .u64 e.v)
  bytes : BytesAt M w pa e.bs
  nil : pa = none → pc = 0

/-- A slice of entries; 'x = true': each payload's capacity is its length. -/
def EntsAt (M : Nat → Prop) (x : Bool) (w : World) (a : Option Addr) (es : List Ent) : Prop :=
  es = [] ∨ ∃ b off, a = some ⟨b, off, none⟩ ∧ M b ∧ ∀ i, i < es.length → ∃ pa pc, EntAt M w b (off + i * 8) (es.getD i noEnt) pa pc ∧ (x = true → pc = (es.getD i noEnt).bs.length)

theorem BytesAt.later {M : Nat → Prop} {w w' : World} {a : Option Addr} {bs : List Int} (h : BytesAt M w a bs) (hs : Same M w w') : BytesAt M w' a bs := by
  rcases h with h | ⟨b, off, ha, hb, hc⟩
  · exact .inl h
  · exact .inr ⟨b, off, ha, hb, fun i hi => by rw [World.cell?_of_block (w := w) (hs b hb (block_lt (hc i hi)))]; exact hc i hi⟩
theorem RunsAt.later {M : Nat → Prop} {w w' : World} {a : Option Addr} {rs : List (Int × Int)} (h : RunsAt M w a rs) (hs : Same M w w') : RunsAt M w' a rs := by
  rcases h with h | ⟨b, off, ha, hb, hc⟩
  · exact .inl h
  · exact .inr ⟨b, off, ha, hb, fun i hi => ⟨by rw [World.cell?_of_block (w := w) (hs b hb (block_lt (hc i hi).1))]; exact (hc i hi).1, by rw [World.cell?_of_block (w := w) (hs b hb (block_lt (hc i hi).1))]; exact (hc i hi).2⟩⟩
theorem EntAt.later {M : Nat → Prop} {w w' : World} {b o : Nat} {e : Ent} {pa : Option Addr} {pc : Nat} (h : EntAt M w b o e pa pc) (hb : M b) (hs : Same M w w') : EntAt M w' b o e pa pc := by
  have hc : ∀ i, w'.cell? ⟨b, i, none⟩ = w.cell? ⟨b, i, none⟩ := fun i => World.cell?_of_block (hs b hb (block_lt h.c0))
  exact ⟨by rw [hc, h.c0], by rw [hc, h.c1], by rw [hc, h.c2], by rw [hc, h.c3], by rw [hc, h.c4], by rw [hc, h.c5], by rw [hc, h.c6], by rw [hc, h.c7], h.bytes.later hs, h.nil⟩
theorem EntsAt.later {M : Nat → Prop} {x : Bool} {w w' : World} {a : Option Addr} {es : List Ent} (h : EntsAt M x w a es) (hs : Same M w w') : EntsAt M x w' a es := by
  rcases h with h | ⟨b, off, ha, hb, hc⟩
  · exact .inl h
  · exact .inr ⟨b, off, ha, hb, fun i hi => by obtain ⟨pa, pc, h1, h2⟩ := hc i hi; exact ⟨pa, pc, h1.later hb hs, h2⟩⟩

theorem BytesAt.mono {M N : Nat → Prop} {w : World} {a : Option Addr} {bs : List Int} (h : BytesAt M w a bs) (hm : ∀ k, M k → N k) : BytesAt N w a bs := by
  rcases h with h | ⟨b, off, ha, hb, hc⟩
  · exact .inl h
  · exact .inr ⟨b, off, ha, hm b hb, hc⟩
theorem RunsAt.mono {M N : Nat → Prop} {w : World} {a : Option Addr} {rs : List (Int × Int)} (h : RunsAt M w a rs) (hm : ∀ k, M k → N k) : RunsAt N w a rs := by
  rcases h with h | ⟨b, off, ha, hb, hc⟩
  · exact .inl h
  · exact .inr ⟨b, off, ha, hm b hb, hc⟩
theorem EntAt.mono {M N : Nat → Prop} {w : World} {b o : Nat} {e : Ent} {pa : Option Addr} {pc : Nat} (h : EntAt M w b o e pa pc) (hm : ∀ k, M k → N k) : EntAt N w b o e pa pc :=
  ⟨h.c0, h.c1, h.c2, h.c3, h.c4, h.c5, h.c6, h.c7, h.bytes.mono hm, h.nil⟩
theorem EntsAt.mono {M N : Nat → Prop} {x : Bool} {w : World} {a : Option Addr} {es : List Ent} (h : EntsAt M x w a es) (hm : ∀ k, M k → N k) : EntsAt N x w a es := by
  rcases h with h | ⟨b, off, ha, hb, hc⟩
  · exact .inl h
  · exact .inr ⟨b, off, ha, hm b hb, fun i hi => by obtain ⟨pa, pc, h1, h2⟩ := hc i hi; exact ⟨pa, pc, h1.mono hm, h2⟩⟩
theorem EntsAt.loose {M : Nat → Prop} {x : Bool} {w : World} {a : Option Addr} {es : List Ent} (h : EntsAt M x w a es) : EntsAt M false w a es := by
  rcases h with h | ⟨b, off, ha, hb, hc⟩
  · exact .inl h
  · exact .inr ⟨b, off, ha, hb, fun i hi => by obtain ⟨pa, pc, h1, _⟩ := hc i hi; exact ⟨pa, pc, h1, fun h => by cases h⟩⟩

theorem same_below {M : Nat → Prop} {B : Nat} {w w' : World} (hb : Below B w w') (hM : ∀ k, M k → k < w.heap.size → k < B) : Same M w w' := fun k hk hl => hb.block k (hM k hk hl)
theorem Same.all {M : Nat → Prop} {w w' : World} (hb : Below w.heap.size w w') : Same M w w' := fun k _ hl => hb.block k hl
theorem Same.trans {M : Nat → Prop} {w w1 w2 : World} (h1 : Same M w w1) (h2 : Same M w1 w2) (hs : w.heap.size ≤ w1.heap.size) : Same M w w2 := fun k hk hl => (h2 k hk (by omega)).trans (h1 k hk hl)
theorem Same.put {M : Nat → Prop} {w w1 : World} (h : Same M w w1) {p : Addr} (hp : ¬ M p.block) (v : Value) : Same M w (w1.setCell p v) := fun k hk hl => by
  rw [Below.heap_setCell _ _ _ _ (fun e => hp (e ▸ hk)), h k hk hl]

theorem BytesAt.bound {M : Nat → Prop} {w : World} {a : Option Addr} {bs : List Int} (h : BytesAt M w a bs) : BytesAt (fun k => M k ∧ k < w.heap.size) w a bs := by
  rcases h with h | ⟨b, off, ha, hb, hc⟩
  · exact .inl h
  · by_cases h0 : bs = []
    · exact .inl h0
    · exact .inr ⟨b, off, ha, ⟨hb, block_lt (hc 0 (List.length_pos_iff.2 h0))⟩, hc⟩
theorem RunsAt.bound {M : Nat → Prop} {w : World} {a : Option Addr} {rs : List (Int × Int)} (h : RunsAt M w a rs) : RunsAt (fun k => M k ∧ k < w.heap.size) w a rs := by
  rcases h with h | ⟨b, off, ha, hb, hc⟩
  · exact .inl h
  · by_cases h0 : rs = []
    · exact .inl h0
    · exact .inr ⟨b, off, ha, ⟨hb, block_lt (hc 0 (List.length_pos_iff.2 h0)).1⟩, hc⟩
theorem EntsAt.bound {M : Nat → Prop} {x : Bool} {w : World} {a : Option Addr} {es : List Ent} (h : EntsAt M x w a es) : EntsAt (fun k => M k ∧ k < w.heap.size) x w a es := by
  rcases h with h | ⟨b, off, ha, hb, hc⟩
  · exact .inl h
  · by_cases h0 : es = []
    · exact .inl h0
    · obtain ⟨pa, pc, h1, _⟩ := hc 0 (List.length_pos_iff.2 h0)
      exact .inr ⟨b, off, ha, ⟨hb, block_lt h1.c0⟩, fun i hi => by
        obtain ⟨pa, pc, h1, h2⟩ := hc i hi
        exact ⟨pa, pc, ⟨h1.c0, h1.c1, h1.c2, h1.c3, h1.c4, h1.c5, h1.c6, h1.c7, h1.bytes.bound, h1.nil⟩, h2⟩⟩

theorem BytesAt.at {M : Nat → Prop} {w : World} {a : Option Addr} {bs : List Int} (h : BytesAt M w a bs) {n k : Nat} (hn : bs.length = n) (hk : k < n) :
    ∃ b off, a = some ⟨b, off, none⟩ ∧ M b ∧ w.cell? ⟨b, off + k, none⟩ = some (.int .u8 (bs.getD k 0)) := by
  rcases h with rfl | ⟨b, off, rfl, hb, hc⟩
  · simp at hn; omega
  · exact ⟨b, off, rfl, hb, hc k (by omega)⟩
theorem RunsAt.at {M : Nat → Prop} {w : World} {a : Option Addr} {rs : List (Int × Int)} (h : RunsAt M w a rs) {n k : Nat} (hn : rs.length = n) (hk : k < n) :
    ∃ b off, a = some ⟨b, off, none⟩ ∧ M b ∧ w.cell? ⟨b, off + k * 2, none⟩ = some (.int .u64 (rs.getD k (0, 0)).1) ∧ w.cell? ⟨b, off + k * 2 + 1, none⟩ = some (.int .u64 (rs.getD k (0, 0)).2) := by
  rcases h with rfl | ⟨b, off, rfl, hb, hc⟩
  · simp at hn; omega
  · exact ⟨b, off, rfl, hb, hc k (by omega)⟩
theorem EntsAt.at {M : Nat → Prop} {x : Bool} {w : World} {a : Option Addr} {es : List Ent} (h : EntsAt M x w a es) {n k : Nat} (hn : es.length = n) (hk : k < n) :
    ∃ b off, a = some ⟨b, off, none⟩ ∧ M b ∧ ∃ pa pc, EntAt M w b (off + k * 8) (es.getD k noEnt) pa pc ∧ (x = true → pc = (es.getD k noEnt).bs.length) := by
  rcases h with rfl | ⟨b, off, rfl, hb, hc⟩
  · simp at hn; omega
  · exact ⟨b, off, rfl, hb, hc k (by omega)⟩

/-- A ROW IN THE MAKING: n * sz cells of block g, none frozen; those below 'm' hold what 'val' says. -/
def Fill (w : World) (g N : Nat) (val : Nat → Value) (m : Nat) : Prop :=
  ∀ o, o < N → w.frozen? ⟨g, o, none⟩ = false ∧ ∃ v, w.cell? ⟨g, o, none⟩ = some v ∧ (o < m → v = val o)

theorem Fill.start {w : World} {base e size g n : Nat} {xs : List Value} {val : Nat → Value} (h : w.ownsRow base e size (.slice (some ⟨g, 0, none⟩) n n) n xs) : Fill w g (n * size) val 0 := fun o ho => by
  refine ⟨h.frozenAt o, ?_⟩
  have hl : o < xs.length := by rw [h.1]; exact ho
  exact ⟨xs[o], by rw [h.cellAt o ho, List.getElem?_eq_getElem hl], fun hz => by omega⟩

theorem addr_ne (g a b : Nat) (h : a ≠ b) : (⟨g, a, none⟩ : Addr) ≠ ⟨g, b, none⟩ := by intro e; injection e with _ e _; exact h e

/-- One cell more. -/
theorem Fill.put {w : World} {g N m : Nat} {val : Nat → Value} {v : Value} (h : Fill w g N val m) (hv : v = val m) : Fill (w.setCell ⟨g, m, none⟩ v) g N val (m + 1) := fun o ho => by
  obtain ⟨h1, u, h2, h3⟩ := h o ho
  refine ⟨by rw [World.frozen?_setCell]; exact h1, ?_⟩
  by_cases e : o = m
  · subst e
    exact ⟨v, World.cell?_setCell_same _ _ _ h2, fun _ => hv⟩
  · exact ⟨u, by rw [World.cell?_setCell_other _ _ _ _ (addr_ne g m o (fun h => e h.symm)), h2], fun hlt => h3 (by omega)⟩
theorem Fill.same {w w' : World} {g N m : Nat} {val : Nat → Value} (h : Fill w g N val m) (hs : w'.heap[g]? = w.heap[g]?) : Fill w' g N val m := fun o ho => by
  obtain ⟨h1, u, h2, h3⟩ := h o ho
  exact ⟨by rw [World.frozen?_of_block (a := ⟨g, o, none⟩) hs]; exact h1, u, by rw [World.cell?_of_block (a := ⟨g, o, none⟩) hs]; exact h2, h3⟩
theorem Fill.at {w : World} {g N m : Nat} {val : Nat → Value} (h : Fill w g N val m) {o : Nat} (ho : o < N) (hm : o < m) : w.cell? ⟨g, o, none⟩ = some (val o) := by
  obtain ⟨_, u, h2, h3⟩ := h o ho
  rw [h2, h3 hm]
end Go.Proofs.Qxb6605855a
