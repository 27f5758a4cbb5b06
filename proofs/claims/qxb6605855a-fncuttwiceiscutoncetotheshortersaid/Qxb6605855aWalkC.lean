import Derived.Test.Qxb6605855aWalkB
import Derived.Laws.CopyOwn
namespace Go.Proofs.Qxb6605855a
open Go.RowKit

/-- n * 8 cells of block g, none frozen. -/
def Raw (w : World) (g N : Nat) : Prop := ∀ o, o < N → w.frozen? ⟨g, o, none⟩ = false ∧ ∃ v, w.cell? ⟨g, o, none⟩ = some v
/-- A row of entries in the making, k of them laid. -/
structure EntFill (M : Nat → Prop) (x : Bool) (w0 w : World) (g n : Nat) (es : List Ent) (k : Nat) : Prop where
  raw : Raw w g (n * 8)
  done : ∀ i, i < k → ∃ pa pc, EntAt M w g (i * 8) (es.getD i noEnt) pa pc ∧ (x = true → pc = (es.getD i noEnt).bs.length)
  bel : Below w0.heap.size w0 w
  lt : g < w.heap.size

theorem setCells_other (g : Nat) : ∀ (vs : List Value) (o : Nat) (w : World) (k : Nat), k ≠ g → (w.setCells g o vs).heap[k]? = w.heap[k]?
  | [], _, _, _, _ => rfl
  | v :: r, o, _, k, h => by
    rw [World.setCells, setCells_other g r (o + 1) _ k h]
    exact Below.heap_setCell _ _ _ _ h
theorem setCells_size (g : Nat) : ∀ (vs : List Value) (o : Nat) (w : World), (w.setCells g o vs).heap.size = w.heap.size
  | [], _, _ => rfl
  | _ :: r, o, _ => by rw [World.setCells, setCells_size g r (o + 1)]; simp
theorem setCells_below {B g : Nat} {w0 : World} (hB : B ≤ g) : ∀ (vs : List Value) (o : Nat) (w : World), Below B w0 w → Below B w0 (w.setCells g o vs)
  | [], _, _, h => h
  | v :: r, o, _, h => setCells_below hB r (o + 1) _ (h.setCell hB v)

def cells8 (e : Ent) (pv : Value) : List Value := [.int .u64 e.p, .int .u64 e.m, .int .u64 e.i, .int .u64 e.s, pv, .int .u64 e.k, .int .u64 e.t, .int .u64 e.v]

/-- A world further on, in which the row and what its entries lead to stand as they were. -/
theorem EntFill.later {M : Nat → Prop} {x : Bool} {w0 w w' : World} {g n : Nat} {es : List Ent} {k : Nat} (I : EntFill M x w0 w g n es k) (hs : Same (fun j => M j ∨ j = g) w w') (hb : Below w0.heap.size w0 w') (hl : w.heap.size ≤ w'.heap.size) : EntFill M x w0 w' g n es k := by
  have hg : w'.heap[g]? = w.heap[g]? := hs g (.inr rfl) I.lt
  refine ⟨fun o ho => ?_, fun i hi => ?_, hb, by have := I.lt; omega⟩
  · obtain ⟨h1, v, h2⟩ := I.raw o ho
    exact ⟨by rw [World.frozen?_of_block (a := ⟨g, o, none⟩) hg]; exact h1, v, by rw [World.cell?_of_block (a := ⟨g, o, none⟩) hg]; exact h2⟩
  · obtain ⟨pa, pc, h1, h2⟩ := I.done i hi
    have hc : ∀ j, w'.cell? ⟨g, j, none⟩ = w.cell? ⟨g, j, none⟩ := fun j => World.cell?_of_block hg
    exact ⟨pa, pc, ⟨by rw [hc, h1.c0], by rw [hc, h1.c1], by rw [hc, h1.c2], by rw [hc, h1.c3], by rw [hc, h1.c4], by rw [hc, h1.c5], by rw [hc, h1.c6], by rw [hc, h1.c7], h1.bytes.later (fun k hk hl => hs k (.inl hk) hl), h1.nil⟩, h2⟩

/-- One entry more. -/
theorem EntFill.put {M : Nat → Prop} {x : Bool} {w0 w : World} {g n : Nat} {es : List Ent} {k : Nat} {e : Ent} {pa : Option Addr} {pc : Nat} (I : EntFill M x w0 w g n es k) (hk : k < n) (hMg : ¬ M g) (hgB : w0.heap.size ≤ g) (he : es.getD k noEnt = e)
    (hb : BytesAt M w pa e.bs) (hn : pa = none → pc = 0) (hx : x = true → pc = e.bs.length) :
    EntFill M x w0 (w.setCells g (k * 8) (cells8 e (.slice pa e.bs.length pc))) g n es (k + 1) := by
  have hsame : Same M w (w.setCells g (k * 8) (cells8 e (.slice pa e.bs.length pc))) := fun j hj _ => setCells_other g _ _ _ _ (fun h => hMg (h ▸ hj))
  have hin := World.cell?_setCells_in g (cells8 e (.slice pa e.bs.length pc)) (k * 8) w (fun j hj => by
    have hj' : j < 8 := hj
    obtain ⟨_, v, h2⟩ := I.raw (k * 8 + j) (by omega)
    rw [h2]; rfl)
  have hout : ∀ o, (o < k * 8 ∨ k * 8 + 8 ≤ o) → (w.setCells g (k * 8) (cells8 e (.slice pa e.bs.length pc))).cell? ⟨g, o, none⟩ = w.cell? ⟨g, o, none⟩ := fun o ho => World.cell?_setCells_out g _ _ _ _ (fun _ _ => ho)
  refine ⟨fun o ho => ?_, fun i hi => ?_, setCells_below hgB _ _ _ I.bel, by rw [setCells_size]; exact I.lt⟩
  · obtain ⟨h1, v, h2⟩ := I.raw o ho
    refine ⟨by rw [World.frozen?_setCells]; exact h1, ?_⟩
    by_cases h : o < k * 8 ∨ k * 8 + 8 ≤ o
    · exact ⟨v, by rw [hout o h, h2]⟩
    · have := hin (o - k * 8) (show o - k * 8 < 8 by omega)
      rw [show k * 8 + (o - k * 8) = o by omega] at this
      exact ⟨_, this⟩
  · by_cases h : i = k
    · subst h
      rw [he]
      exact ⟨pa, pc, ⟨hin 0 (show 0 < 8 by omega), hin 1 (show 1 < 8 by omega), hin 2 (show 2 < 8 by omega), hin 3 (show 3 < 8 by omega), hin 4 (show 4 < 8 by omega), hin 5 (show 5 < 8 by omega), hin 6 (show 6 < 8 by omega), hin 7 (show 7 < 8 by omega), hb.later hsame, hn⟩, hx⟩
    · obtain ⟨qa, qc, h1, h2⟩ := I.done i (by omega)
      exact ⟨qa, qc, ⟨by rw [hout _ (by omega), h1.c0], by rw [hout _ (by omega), h1.c1], by rw [hout _ (by omega), h1.c2], by rw [hout _ (by omega), h1.c3], by rw [hout _ (by omega), h1.c4], by rw [hout _ (by omega), h1.c5], by rw [hout _ (by omega), h1.c6], by rw [hout _ (by omega), h1.c7], h1.bytes.later hsame, h1.nil⟩, h2⟩

theorem EntsAt.filled {M N : Nat → Prop} {x : Bool} {w0 w : World} {g : Nat} {es : List Ent} (I : EntFill M x w0 w g es.length es es.length) (hM : ∀ k, M k → N k) (hg : N g) : EntsAt N x w (some ⟨g, 0, none⟩) es :=
  .inr ⟨g, 0, rfl, hg, fun i hi => by obtain ⟨pa, pc, h1, h2⟩ := I.done i hi; rw [Nat.zero_add]; exact ⟨pa, pc, h1.mono hM, h2⟩⟩

/-- The eight cells that the next entry goes to. -/
theorem EntFill.dest {M : Nat → Prop} {x : Bool} {w0 w : World} {g n : Nat} {es : List Ent} {k : Nat} (I : EntFill M x w0 w g n es k) (hk : k < n) (j : Nat) (hj : j < 8) : w.frozen? ⟨g, k * 8 + j, none⟩ = false ∧ ∃ v, w.cell? ⟨g, k * 8 + j, none⟩ = some v := I.raw _ (by omega)

theorem made_block {w : World} {B e g n : Nat} {L : List Value} (h : w.ownsRow B e 1 (.slice (some ⟨g, 0, none⟩) n n) n L) : w.heap[g]? = some (.cells L.toArray e (0, 0)) := by
  rcases h.2 with ⟨hv, _⟩ | ⟨g', cap, cur, hv, _, hg, _, _, hs, ht⟩
  · cases hv
  · simp at hv
    obtain ⟨rfl, rfl⟩ := hv
    rw [hg, ← ht, List.take_of_length_le (by simp; omega)]
theorem splice_all (L cs : List Value) (h : L.length = cs.length) : splice L 0 cs = cs := by
  simp [splice, h]
theorem BytesAt.of_block {M : Nat → Prop} {w : World} {g : Nat} {bs : List Int} {t : TypeId} (h : w.heap[g]? = some (.cells (bs.map (Value.int .u8)).toArray t (0, 0))) (hg : M g) : BytesAt M w (some ⟨g, 0, none⟩) bs :=
  .inr ⟨g, 0, rfl, hg, fun i hi => by
    rw [cell_of_row w g (0 + i) _ t _ h]
    simp [List.getD, hi]⟩
/-- Cells of a block that is known, and of those below it, in a world further on. -/
theorem boxed {w w' : World} {vs : Array Value} {t : TypeId} (hb : Below (w.heap.size + 1) (w.alloc (.cells vs t)) w') :
    (∀ j, w'.cell? ⟨w.heap.size, j, none⟩ = vs[j]?) ∧ (∀ j, w'.frozen? ⟨w.heap.size, j, none⟩ = false) ∧ (∀ b j, b < w.heap.size → w'.cell? ⟨b, j, none⟩ = w.cell? ⟨b, j, none⟩) ∧ (∀ b j, b < w.heap.size → w'.frozen? ⟨b, j, none⟩ = w.frozen? ⟨b, j, none⟩) ∧ Below w.heap.size w w' ∧ w.heap.size + 1 ≤ w'.heap.size := by
  have hw : Below w.heap.size w (w.alloc (.cells vs t)) := (Below.refl _ _).alloc (Nat.le_refl _) _
  have hbb : Below w.heap.size w w' := hw.trans (hb.mono (by omega))
  refine ⟨fun j => ?_, fun j => ?_, fun b j h => hbb.cell (p := ⟨b, j, none⟩) h, fun b j h => hbb.frozen (p := ⟨b, j, none⟩) h, hbb, by have := hb.size; simpa using this⟩
  · rw [hb.cell (p := ⟨w.heap.size, j, none⟩) (by simp), World.cell?_alloc_new]
  · rw [hb.frozen (p := ⟨w.heap.size, j, none⟩) (by simp)]
    exact World.frozen?_alloc_at _ _ _ _ rfl

theorem cloneRecent_nil (w : World) : Calls Try.prog 15 #[.slice none 0 0] w fun e w' => e = .returned (.slice none 0 0) ∧ w' = w := by
  have q33 := fun (w : World) (a : Option Addr) (n c n' c' : Nat) => Lib.run_eql_slice_nil (P := Try.prog) w _ _ a n c n' c' Try.underlying33
  go_enter Try.func15, Try.ntmps15
  go_wp2
  go_ret
  exact ⟨rfl, rfl⟩

set_option maxRecDepth 100000 in
set_option maxHeartbeats 1600000 in
theorem cloneRecent_some (M : Nat → Prop) (x : Addr) (cap : Nat) (es : List Ent) (w : World) (hlen : es.length ≤ 65536) (hby : ∀ i, i < es.length → (es.getD i noEnt).bs.length ≤ 1048576) (hc : EntsAt M false w (some x) es) (hM : ∀ k, M k → k < w.heap.size) :
    Calls Try.prog 15 #[.slice (some x) es.length cap] w fun e w' => e = .returned (.slice (some ⟨w.heap.size, 0, none⟩) es.length es.length) ∧ EntsAt (fun k => w.heap.size ≤ k) false w' (some ⟨w.heap.size, 0, none⟩) es ∧ Below w.heap.size w w' := by
  obtain ⟨i0, hi, hz0, hz1, hz2⟩ := info_parts Try.info54
  obtain ⟨i5, hi5, hz50, hz51, hz52⟩ := info_parts Try.info5
  have q33 := fun (w : World) (a : Option Addr) (n c n' c' : Nat) => Lib.run_eql_slice_nil (P := Try.prog) w _ _ a n c n' c' Try.underlying33
  have q49 := fun (w : World) (a : Option Addr) (n c n' c' : Nat) => run_neq_slice_nil_any (P := Try.prog) w _ _ a n c n' c' Try.underlying49
  obtain ⟨n, hn⟩ : ∃ n, es.length = n := ⟨_, rfl⟩
  have HN := hide hn
  have HC := hide hc
  have HM := hide hM
  have HBY := hide hby
  rw [hn] at hlen ⊢
  clear hn hc hM hby
  go_enter Try.func15, Try.ntmps15
  go_wp2_with (at_make; refine wpList_make_full _ rfl _ _ 33 rfl w.heap.size 54 i0 (.agg #[.int .u64 0, .int .u64 0, .int .u64 0, .int .u64 0, .slice none 0 0, .int .u64 0, .int .u64 0, .int .u64 0]) 8 Try.underlying33 hi hz0 hz1 _ _ _ _ n rfl rfl (by omega) (by omega) ?b2 ?b3 (Nat.le_refl _) ?_)
  case b2 => rw [hz2]; omega
  case b3 => unfold maxLen; omega
  intro w0 hown0 hgrow0
  have HF : Hid (EntFill (fun k => w.heap.size < k) false w w0 w.heap.size n es 0) := by
    have hf := Fill.start (val := fun _ => .bool true) hown0
    have hb : Below w.heap.size w w0 := (Below.refl _ _).grown hgrow0 (Nat.le_refl _) (fun k h => by cases h)
    refine ⟨fun o ho => ?_, fun i hi => by omega, hb, ?_⟩
    · obtain ⟨h1, v, h2, _⟩ := hf o ho; exact ⟨h1, v, h2⟩
    · rcases hown0.2 with ⟨h, _⟩ | ⟨g, cap, cur, hv, _, hg, _⟩
      · cases h
      · cases hv
        rcases Nat.lt_or_ge w.heap.size w0.heap.size with h | h
        · exact h
        · rw [Array.getElem?_eq_none h] at hg; cases hg
  clear hown0 hgrow0
  go_wp2
  go_loopw [4] (fun i wr => ∃ k : Nat, k ≤ n ∧ i = .int .i64 k ∧ Hid (EntFill (fun k => w.heap.size < k) false w wr w.heap.size n es k)) (fun i _ => n - (intOf i).toNat)
  case atStart => exact ⟨0, Nat.zero_le _, rfl, HF⟩
  case round =>
    clear HF
    obtain ⟨k, hk, rfl, I⟩ := hrel
    by_cases hlt : k < n
    · obtain ⟨b, off, hx, hb, pa, pc, hE, _⟩ := HC.out.at HN.out hlt
      cases hx
      have HE := hide (hE.later hb (same_below I.out.bel (fun k hk _ => HM.out k hk)))
      have hby := HBY.out k (by rw [HN.out]; exact hlt)
      clear hE
      obtain ⟨e, he⟩ : ∃ e, es.getD k noEnt = e := ⟨_, rfl⟩
      have HEE := hide he
      rw [he] at HE hby
      clear he
      have s0 := HE.out.c0
      have s1 := HE.out.c1
      have s2 := HE.out.c2
      have s3 := HE.out.c3
      have s4 := HE.out.c4
      have s5 := HE.out.c5
      have s6 := HE.out.c6
      have s7 := HE.out.c7
      obtain ⟨z0, u0, d0⟩ := I.out.dest hlt 0 (by omega)
      obtain ⟨z1, u1, d1⟩ := I.out.dest hlt 1 (by omega)
      obtain ⟨z2, u2, d2⟩ := I.out.dest hlt 2 (by omega)
      obtain ⟨z3, u3, d3⟩ := I.out.dest hlt 3 (by omega)
      obtain ⟨z4, u4, d4⟩ := I.out.dest hlt 4 (by omega)
      obtain ⟨z5, u5, d5⟩ := I.out.dest hlt 5 (by omega)
      obtain ⟨z6, u6, d6⟩ := I.out.dest hlt 6 (by omega)
      obtain ⟨z7, u7, d7⟩ := I.out.dest hlt 7 (by omega)
      rw [Nat.add_zero] at z0 d0
      have hwlt := I.out.lt
      rcases pa with _ | px
      · have hbs : Hid (e.bs = []) := by rcases HE.out.bytes with h | ⟨_, _, h, _⟩; exact h; cases h
        go_wp2
        go_roundw
        case rel => 
          refine ⟨k + 1, by omega, by go_num, ?_⟩
          have h := I.out.put (pa := none) (pc := 0) hlt (by omega) (Nat.le_refl _) HEE.out (.inl hbs.out) (fun _ => rfl) (fun h => by cases h)
          rw [show e.bs.length = 0 by rw [hbs.out]; rfl] at h
          exact h.later (Same.all ((Below.refl _ _).alloc (Nat.le_refl _) _)) (h.bel.alloc h.bel.size _) (by rw [World.size_alloc]; exact Nat.le_succ _)
        case measure => simp [intOf]; omega
      · have hsz : (Try.prog.info? 5).map (·.size) = some 1 := by rw [hi5]; simp [hz51]
        obtain ⟨X, hX⟩ : ∃ X, X = e.bs.map (Value.int .u8) := ⟨_, rfl⟩
        have HX := hide hX
        obtain ⟨L, hL⟩ : ∃ L, e.bs.length = L := ⟨_, rfl⟩
        have HLL := hide hL
        rw [hL] at s4 hby
        have HL : Hid (X.length = L) := by show _ = _; rw [hX, List.length_map, hL]
        have H1 : Hid (∀ v ∈ X, v.oneCell' = true) := by
          show ∀ v ∈ X, v.oneCell' = true
          intro v hv
          rw [hX] at hv
          obtain ⟨k, _, rfl⟩ := List.mem_map.1 hv
          rfl
        have HSRC : Hid (∀ W, Below wr.heap.size wr W → ∀ j v, X[j]? = some v → W.cell? (px.add j) = some v) := by
          show ∀ W, Below wr.heap.size wr W → ∀ j v, X[j]? = some v → W.cell? (px.add j) = some v
          intro W hW j v hv
          have hj : j < e.bs.length := by have := (List.getElem?_eq_some_iff.1 hv).1; rw [hX, List.length_map] at this; exact this
          obtain ⟨b, off, hx, _, hc⟩ := HE.out.bytes.at rfl hj
          cases hx
          rw [WideShapes.add_plain, hW.cell (block_lt hc), hc]
          rw [hX, List.getElem?_map, List.getElem?_eq_getElem hj] at hv
          simpa [List.getD, hj] using hv
        clear hX hL
        have HCN : Hid (X.length = Nat.min L L) := by show _ = _; rw [HL.out]; simp
        go_wp2_with (at_make; refine wpList_make_full _ rfl _ _ 49 rfl (wr.heap.size + 1) 5 i5 (.int .u8 0) 1 Try.underlying49 hi5 hz50 hz51 _ _ _ _ L rfl rfl (by omega) (by omega) ?b2 ?b3 (by simp) ?_)
        case b2 => rw [hz52]; omega
        case b3 => unfold maxLen; omega
        intro w2 hown2 hgrow2
        rw [toList_madeCells_one] at hown2
        have HG2 := hide (made_block hown2)
        have hb2 : Below (wr.heap.size + 1) _ w2 := (Below.refl _ _).grown hgrow2 (by simp) (fun k h => by cases h)
        have HB2 := hide hb2
        obtain ⟨hx2, _, _, _, hbw2, _⟩ := boxed hb2
        have p4 : w2.cell? ⟨wr.heap.size, 4, none⟩ = some (.slice (some px) L pc) := hx2 4
        have HSR2 := hide (HSRC.out w2 hbw2)
        clear hown2 hgrow2 hb2 hx2 hbw2
        go_wp2_with (refine wpList_copy_splice rfl _ _ 49 49 rfl 5 Try.underlying49 hsz _ _ _ _ _ _ (by rfl) (by rfl) (wr.heap.size + 1) 0 _ 5 HG2.out X HCN.out (fun _ => ⟨rfl, _, rfl, HSR2.out⟩) (by rw [HL.out]; simp) H1.out (wr.heap.size + 1) _ HB2.out (Nat.le_refl _) ?_)
        intro w3 HG3 hb3
        have HRU : Hid (w3.heap[wr.heap.size + 1]? = some (.cells (e.bs.map (Value.int .u8)).toArray 5 (0, 0))) := by
          have h := HG3.out
          rw [splice_all _ _ (by rw [HL.out]; simp), HX.out] at h
          exact h
        obtain ⟨hx3, hz3, ho3, hf3, hbw3, hsz3⟩ := boxed hb3
        have HBW3 := hide hbw3
        have hsz4 : wr.heap.size + 1 < w3.heap.size := by
          rcases Nat.lt_or_ge (wr.heap.size + 1) w3.heap.size with h | h
          · exact h
          · have h' := HRU.out; rw [Array.getElem?_eq_none h] at h'; cases h'
        have p0 : w3.cell? ⟨wr.heap.size, 0, none⟩ = some (.int .u64 e.p) := hx3 0
        have p1 : w3.cell? ⟨wr.heap.size, 1, none⟩ = some (.int .u64 e.m) := hx3 1
        have p2 : w3.cell? ⟨wr.heap.size, 2, none⟩ = some (.int .u64 e.i) := hx3 2
        have p3 : w3.cell? ⟨wr.heap.size, 3, none⟩ = some (.int .u64 e.s) := hx3 3
        have p4' : w3.cell? ⟨wr.heap.size, 4, none⟩ = some (.slice (some px) L pc) := hx3 4
        have p5 : w3.cell? ⟨wr.heap.size, 5, none⟩ = some (.int .u64 e.k) := hx3 5
        have p6 : w3.cell? ⟨wr.heap.size, 6, none⟩ = some (.int .u64 e.t) := hx3 6
        have p7 : w3.cell? ⟨wr.heap.size, 7, none⟩ = some (.int .u64 e.v) := hx3 7
        have y4 := hz3 4
        clear s0 s1 s2 s3 s4 s5 s6 s7 p4 HG3 hb3 hx3 hz3 hbw3 hsz3 HG2 HB2 HSR2
        rw [← ho3 _ _ hwlt] at d0 d1 d2 d3 d4 d5 d6 d7
        rw [← hf3 _ _ hwlt] at z0 z1 z2 z3 z4 z5 z6 z7
        clear ho3 hf3
        have hne : w.heap.size ≠ wr.heap.size := by omega
        go_wp2
        go_roundw
        case rel =>
          refine ⟨k + 1, by omega, by go_num, ?_⟩
          have hbw : Below wr.heap.size wr (w3.setCell ⟨wr.heap.size, 4, none⟩ (.slice (some ⟨wr.heap.size + 1, 0, none⟩) L L)) := HBW3.out.setCell (Nat.le_refl _) _
          have h4 := I.out.later (Same.all hbw) (I.out.bel.trans (hbw.mono I.out.bel.size)) hbw.size
          have hby4 : BytesAt (fun k => w.heap.size < k) (w3.setCell ⟨wr.heap.size, 4, none⟩ (.slice (some ⟨wr.heap.size + 1, 0, none⟩) L L)) (some ⟨wr.heap.size + 1, 0, none⟩) e.bs :=
            BytesAt.of_block (by rw [Below.heap_setCell _ _ _ _ (show wr.heap.size + 1 ≠ wr.heap.size by omega)]; exact HRU.out) (by omega)
          have h := h4.put (pa := some ⟨wr.heap.size + 1, 0, none⟩) (pc := L) hlt (by omega) (Nat.le_refl _) HEE.out hby4 (fun h => by cases h) (fun h => by cases h)
          rw [HLL.out] at h
          exact h
        case measure => simp [intOf]; omega
    · obtain rfl : k = n := by omega
      go_wp2
      go_ret
      have hI := I.out
      refine ⟨rfl, EntsAt.filled (M := fun k => w.heap.size < k) (by rw [HN.out]; exact hI) (fun k hk => Nat.le_of_lt hk) (Nat.le_refl _), hI.bel⟩

theorem cloneRecent_any (M : Nat → Prop) (a : Option Addr) (cap : Nat) (es : List Ent) (w : World) (hlen : es.length ≤ 65536) (hby : ∀ i, i < es.length → (es.getD i noEnt).bs.length ≤ 1048576) (hc : EntsAt M false w a es) (hM : ∀ k, M k → k < w.heap.size) (h0 : a = none → cap = 0) :
    Calls Try.prog 15 #[.slice a es.length cap] w fun e w' => ∃ a' c', e = .returned (.slice a' es.length c') ∧ EntsAt (fun k => w.heap.size ≤ k) false w' a' es ∧ Below w.heap.size w w' := by
  rcases a with _ | x
  · obtain rfl : es = [] := by rcases hc with h | ⟨b, off, h, _⟩; exact h; cases h
    rw [h0 rfl]
    refine (cloneRecent_nil w).mono ?_
    rintro e w' ⟨rfl, rfl⟩
    exact ⟨none, 0, rfl, .inl rfl, Below.refl _ _⟩
  · refine (cloneRecent_some M x cap es w hlen hby hc hM).mono ?_
    rintro e w' ⟨rfl, h1, h2⟩
    exact ⟨_, _, rfl, h1, h2⟩
end Go.Proofs.Qxb6605855a
