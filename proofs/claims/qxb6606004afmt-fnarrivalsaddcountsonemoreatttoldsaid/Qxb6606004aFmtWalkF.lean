import Derived.Test.Qxb6606004aFmtAdd1
import Derived.Laws.CopyOwn
import Derived.Deep.RegionHeld3
namespace Go.Proofs.Qxb6606004aFmt
open Go.RowKit

theorem ownsRow_base {w : World} {B B' e s n : Nat} {v : Value} {xs : List Value} (h : w.ownsRow B' e s v n xs) (hb : B ≤ B') : w.ownsRow B e s v n xs := by
  obtain ⟨h1, h2⟩ := h
  refine ⟨h1, ?_⟩
  rcases h2 with h2 | ⟨g, cap, cur, hv, hg, h3⟩
  · exact .inl h2
  · exact .inr ⟨g, cap, cur, hv, by omega, h3⟩

theorem ownsRow_later {w w' : World} {B e s n : Nat} {v : Value} {xs : List Value} (h : w.ownsRow B e s v n xs) (hb : Below w.heap.size w w') : w'.ownsRow B e s v n xs :=
  ownsRow_of_block h (fun g hg => hb.block g (ownsRow_lt h hg).1)

/-- zzToDur, with what it owns. -/
theorem toDur_own (a : Option Addr) (cap : Nat) (xs : List Int) (w : World) (hlen : xs.length ≤ 1048576) (hc : RowAt w a xs) (h0 : a = none → cap = 0) :
    Calls Tryf.prog 25 #[.slice a xs.length cap] w fun e w' => ∃ a' c', e = .returned (.slice a' xs.length c') ∧ w'.ownsRow w.heap.size 52 1 (.slice a' xs.length c') xs.length (xs.map (Value.int .i64)) ∧ Below w.heap.size w w' := by
  rcases a with _ | x
  · obtain rfl : xs = [] := by rcases hc with h | ⟨b, off, h, _⟩; exact h; cases h
    rw [h0 rfl]
    refine (toDur_nil w).mono ?_
    rintro e w' ⟨rfl, rfl⟩
    exact ⟨none, 0, rfl, World.ownsRow_nil _ _ _ _, Below.refl _ _⟩
  · refine (toDur_some x cap xs w hlen hc).mono ?_
    rintro e w' ⟨rfl, hown, hb⟩
    exact ⟨_, _, rfl, hown, hb⟩

/-- ZZnewArrivals: a new record over a copy of the times and over the very counts handed in. -/
theorem newArr (B : Nat) (a a1 : Option Addr) (c n1 c1 : Nat) (f : Int) (xs us : List Int) (w : World) (hlen : xs.length ≤ 1048576) (hrow : RowAt w a xs) (h0 : a = none → c = 0) (hun : us.length = n1) (hr1 : w.ownsRow B 3 1 (.slice a1 n1 c1) n1 (us.map (Value.int .i64))) (hB : B ≤ w.heap.size) :
    Calls Tryf.prog 11 #[.slice a xs.length c, .slice a1 n1 c1, .int .i64 f] w fun e w' => ∃ S a' c', e = .returned (.pointer (some ⟨S, 0, none⟩)) ∧ ArrAt B S (.slice a' xs.length c') (.slice a1 n1 c1) xs us f w' ∧ Below w.heap.size w w' ∧ w.heap.size ≤ S ∧ ∀ g, (Value.slice a' xs.length c').ownBlock = some g → w.heap.size ≤ g := by
  have K0 := hide (toDur_own a c xs w hlen hrow h0)
  have HR1 := hide hr1
  have HU := hide hun
  clear hrow h0 hr1 hun
  obtain ⟨n, hn⟩ : ∃ n, xs.length = n := ⟨_, rfl⟩
  have HN := hide hn
  rw [hn] at K0 hlen ⊢
  clear hn
  go_enter Tryf.func11, Tryf.ntmps11
  go_wp2_with fail
  refine K0.out.mono ?_
  rintro e w1 ⟨a', c', rfl, hown, hb⟩
  have HO := hide hown
  clear hown
  go_wp2
  go_ret
  have hs : w.heap.size ≤ w1.heap.size := hb.size
  have hbel : Below w1.heap.size w1 (w1.alloc (.cells #[.slice a' n c', .slice a1 n1 c1, .int .i64 f] 50)) := (Below.refl _ _).alloc (Nat.le_refl _) _
  refine ⟨w1.heap.size, a', c', rfl, ⟨by rw [World.cell?_alloc_new]; rfl, by rw [World.cell?_alloc_new]; rfl, by rw [World.cell?_alloc_new]; rfl, World.frozen?_alloc_at _ _ _ _ rfl, World.frozen?_alloc_at _ _ _ _ rfl, ?_, ?_, ?_, ?_, by omega⟩, hb.alloc hs _, hs, fun g hg => (ownsRow_lt HO.out hg).2.1⟩
  · rw [HN.out]; exact ownsRow_later (ownsRow_base HO.out hB) hbel
  · rw [HU.out]; exact ownsRow_later (ownsRow_later HR1.out hb) hbel
  · intro e; have := (ownsRow_lt HO.out e).1; omega
  · intro e; have := (ownsRow_lt HR1.out e).1; omega

theorem add12_same (S g0 g1 m c0 c1 : Nat) (t u : Int) (w : World) (hlen : m + 1 ≤ 1048576) (h0 : w.cell? ⟨S, 0, none⟩ = some (.slice (some ⟨g0, 0, none⟩) (m + 1) c0)) (h1 : w.cell? ⟨S, 1, none⟩ = some (.slice (some ⟨g1, 0, none⟩) (m + 1) c1))
    (ht : w.cell? ⟨g0, m, none⟩ = some (.int .i64 t)) (hu : w.cell? ⟨g1, m, none⟩ = some (.int .i64 u)) (hz : w.frozen? ⟨g1, m, none⟩ = false) (hu0 : 0 ≤ u) (hu1 : u < 9223372036854775807) :
    Calls Tryf.prog 12 #[.pointer (some ⟨S, 0, none⟩), .int .i64 t] w fun e w' => e = .returned (.tuple #[]) ∧ w' = w.setCell ⟨g1, m, none⟩ (.int .i64 (u + 1)) := by
  have K := hide (add_same S g0 g1 m c0 c1 t u w hlen h0 h1 ht hu hz hu0 hu1)
  clear h0 h1 ht hu hz
  go_enter Tryf.func12, Tryf.ntmps12
  go_wp2_with fail
  refine K.out.mono ?_
  rintro e w' ⟨rfl, rfl⟩
  go_wp2
  go_end0
  exact ⟨rfl, rfl⟩

theorem add12_new (B S c0 c1 n : Nat) (a0 a1 : Option Addr) (xs us : List Int) (f t : Int) (w : World) (hA : ArrAt B S (.slice a0 n c0) (.slice a1 n c1) xs us f w) (hxn : xs.length = n) (hun : us.length = n) (hlen : n ≤ 131072)
    (hnd : nondec (xs ++ [t]) = true) (hlt : ∀ i, i < n → xs.getD i 0 < t) (hp0 : 0 ≤ prevAt f us n) (hp1 : prevAt f us n < 9223372036854775807) :
    Calls Tryf.prog 12 #[.pointer (some ⟨S, 0, none⟩), .int .i64 t] w fun e w' => e = .returned (.tuple #[]) ∧ ∃ a0' c0' a1' c1', ArrAt B S (.slice a0' (n + 1) c0') (.slice a1' (n + 1) c1') (xs ++ [t]) (us ++ [prevAt f us n + 1]) f w' ∧ Touch S (.slice a0 n c0) (.slice a1 n c1) w w' := by
  have K := hide (add_new B S c0 c1 n a0 a1 xs us f t w hA hxn hun hlen hnd hlt hp0 hp1)
  clear hA hnd hlt hxn hun
  generalize prevAt f us n = P at K hp0 hp1 ⊢
  go_enter Tryf.func12, Tryf.ntmps12
  go_wp2_with fail
  refine K.out.mono ?_
  rintro e w' ⟨rfl, h⟩
  have H := hide h
  clear h
  go_wp2
  go_end0
  exact ⟨rfl, H.out⟩

/-- A row made and filled by copy. -/
theorem made_block {w : World} {B e g n : Nat} {L : List Value} (h : w.ownsRow B e 1 (.slice (some ⟨g, 0, none⟩) n n) n L) : w.heap[g]? = some (.cells L.toArray e (0, 0)) := by
  rcases h.2 with ⟨hv, _⟩ | ⟨g', cap, cur, hv, _, hg, _, _, hs, ht⟩
  · cases hv
  · simp at hv
    obtain ⟨rfl, rfl⟩ := hv
    rw [hg, ← ht, List.take_of_length_le (by simp; omega)]

theorem splice_all (L cs : List Value) (h : L.length = cs.length) : splice L 0 cs = cs := by
  simp [splice, h]

theorem RowAt.of_block {w : World} {g : Nat} {xs : List Int} {t : TypeId} (h : w.heap[g]? = some (.cells (xs.map (Value.int .i64)).toArray t (0, 0))) : RowAt w (some ⟨g, 0, none⟩) xs :=
  .inr ⟨g, 0, rfl, fun i hi => by
    rw [cell_of_row w g (0 + i) _ t _ h]
    have := getD_some xs i xs.length rfl hi
    simpa using this⟩

set_option maxHeartbeats 1600000 in
/-- ZZArrivalsState: copies of the record's rows. -/
theorem state_any (B S c0 c1 n m : Nat) (a0 a1 : Option Addr) (xs us : List Int) (f : Int) (w : World) (hA : ArrAt B S (.slice a0 n c0) (.slice a1 m c1) xs us f w) (hxn : xs.length = n) (hun : us.length = m) (hn : n ≤ 1048576) (hm : m ≤ 1048576) :
    Calls Tryf.prog 13 #[.pointer (some ⟨S, 0, none⟩)] w fun e w' => ∃ b0 d0 b1 d1, e = .returned (.tuple #[.slice b0 n d0, .slice b1 m d1, .int .i64 f]) ∧ RowAt w' b0 xs ∧ RowAt w' b1 us ∧ Below w.heap.size w w' := by
  obtain ⟨i3, hi3, hz30, hz31, hz32⟩ := info_parts Tryf.info3
  have q23 := fun (w : World) (a : Option Addr) (n c n' c' : Nat) => run_neq_slice_nil_any (P := Tryf.prog) w _ _ a n c n' c' Tryf.underlying23
  have HA := hide hA
  have HN := hide (⟨hxn, hun⟩ : xs.length = n ∧ us.length = m)
  have hSlt := hA.sLt
  have R0 : Hid (∀ W, ArrAt B S (.slice a0 n c0) (.slice a1 m c1) xs us f W → Calls Tryf.prog 27 #[.slice a0 n c0] W fun e w' => ∃ a' c', e = .returned (.slice a' n c') ∧ RowAt w' a' xs ∧ (a' = none → c' = 0) ∧ Below W.heap.size W w') := fun W h => by
    have hr : W.ownsRow B 52 1 (.slice a0 n c0) n (xs.map (Value.int .i64)) := by have := h.r0; rwa [hxn] at this
    have := fromDur_any a0 c0 xs W (by omega) (ownsRow_row hxn hr) (by obtain ⟨_, _, hv, h0, _⟩ := ownsRow_form hr; cases hv; exact h0)
    rwa [hxn] at this
  have R1 : Hid (RowAt w a1 us ∧ (a1 = none → m = 0)) := by
    have hr : w.ownsRow B 3 1 (.slice a1 m c1) m (us.map (Value.int .i64)) := by have := hA.r1; rwa [hun] at this
    refine ⟨ownsRow_row hun hr, fun e => ?_⟩
    rcases hr.2 with ⟨_, h⟩ | ⟨g, cap, cur, hv, _⟩
    · exact h
    · subst e; cases hv
  have h1 := hA.c1
  clear hA hxn hun
  rcases a1 with _ | x1
  · have hm0 := R1.out.2 rfl
    have HU : Hid (us = []) := List.eq_nil_of_length_eq_zero (by rw [HN.out.2, hm0])
    subst hm0
    have hc0 := HA.out.c0
    have hc2 := HA.out.c2
    go_enter Tryf.func13, Tryf.ntmps13
    go_wp2
    go_region_held3 (fun w' => w'.cell? ⟨S, 0, none⟩ = some (.slice a0 n c0) ∧ w'.cell? ⟨S, 2, none⟩ = some (.int .i64 f)) (first | go_keep | exact ⟨by assumption, by assumption⟩)
      (first
        | (go_at_call 27; refine (R0.out _ ?_).mono ?_; (exact HA.out.later (Below.refl _ _).drew); rintro e w3 ⟨b0, d0, rfl, hrow, _, hb3⟩; have HB3 : Hid (Below w.heap.size w w3) := (Below.refl _ w).drew.trans hb3; clear hb3; have HR3 := hide hrow; clear hrow; have hc03 := (HA.out.later HB3.out).c0; have hc23 := (HA.out.later HB3.out).c2))
    go_wp2
    go_ret3
    exact ⟨b0, d0, none, 0, rfl, HR3.out, .inl HU.out, HB3.out⟩
  · have hsz : (Tryf.prog.info? 3).map (·.size) = some 1 := by rw [hi3]; simp [hz31]
    obtain ⟨X, hX⟩ : ∃ X, X = us.map (Value.int .i64) := ⟨_, rfl⟩
    have HX := hide hX
    have HL : Hid (X.length = m) := by show _ = _; rw [hX, List.length_map, HN.out.2]
    have H1 : Hid (∀ v ∈ X, v.oneCell' = true) := by
      show ∀ v ∈ X, v.oneCell' = true
      intro v hv
      rw [hX] at hv
      obtain ⟨k, _, rfl⟩ := List.mem_map.1 hv
      rfl
    have HSRC : Hid (∀ W, Below w.heap.size w W → ∀ j v, X[j]? = some v → W.cell? (x1.add j) = some v) := by
      show ∀ W, Below w.heap.size w W → ∀ j v, X[j]? = some v → W.cell? (x1.add j) = some v
      intro W hW j v hv
      have hj : j < us.length := by have := (List.getElem?_eq_some_iff.1 hv).1; rw [hX, List.length_map] at this; exact this
      obtain ⟨b, off, hx, hbl, hc⟩ := R1.out.1.at rfl hj
      cases hx
      rw [WideShapes.add_plain, hW.cell hbl, hc]
      rw [hX, getD_some us j us.length rfl hj] at hv
      exact hv
    clear hX
    have HCN : Hid (X.length = Nat.min m m) := by show _ = _; rw [HL.out]; simp
    go_enter Tryf.func13, Tryf.ntmps13
    go_wp2_with (at_make; refine wpList_make_full _ rfl _ _ 23 rfl w.heap.size 3 i3 (.int .i64 0) 1 Tryf.underlying23 hi3 hz30 hz31 _ _ _ _ m rfl rfl (by omega) (by omega) ?b2 ?b3 (Nat.le_refl _) ?_)
    case b2 => rw [hz32]; omega
    case b3 => unfold maxLen; omega
    intro w0 hown0 hgrow0
    rw [toList_madeCells_one] at hown0
    have HG0 := hide (made_block hown0)
    have HB0 : Hid (Below w.heap.size w w0) := (Below.refl _ _).grown hgrow0 (Nat.le_refl _) (fun k h => by cases h)
    have h10 := (HA.out.later HB0.out).c1
    clear hown0 hgrow0
    go_wp2_with (refine wpList_copy_splice rfl _ _ 23 23 rfl 3 Tryf.underlying23 hsz _ _ _ _ _ _ (by rfl) (by rfl) w.heap.size 0 _ 3 HG0.out X HCN.out (fun _ => ⟨rfl, _, rfl, HSRC.out _ HB0.out⟩) (by rw [HL.out]; simp) H1.out w.heap.size w HB0.out (Nat.le_refl _) ?_)
    intro w2 HG2 hb2
    have HB2 := hide hb2
    clear hb2
    have HRU : Hid (w2.heap[w.heap.size]? = some (.cells (us.map (Value.int .i64)).toArray 3 (0, 0))) := by
      have h := HG2.out
      rw [splice_all _ _ (by rw [HL.out]; simp), HX.out] at h
      exact h
    clear HG2
    have hc0 := (HA.out.later HB2.out).c0
    have hc2 := (HA.out.later HB2.out).c2
    have hS2 := (HA.out.later HB2.out).sLt
    go_wp2
    go_region_held3 (fun w' => w'.cell? ⟨S, 0, none⟩ = some (.slice a0 n c0) ∧ w'.cell? ⟨S, 2, none⟩ = some (.int .i64 f)) (first | go_keep | exact ⟨by assumption, by assumption⟩)
      (first
        | (go_at_call 27; refine (R0.out _ ?_).mono ?_; (exact (HA.out.later HB2.out).later (Below.refl _ _).drew); rintro e w3 ⟨b0, d0, rfl, hrow, _, hb3⟩; have HB3 : Hid (Below w2.heap.size w2 w3) := (Below.refl _ w2).drew.trans hb3; clear hb3; have HR3 := hide hrow; clear hrow; have hc03 := ((HA.out.later HB2.out).later HB3.out).c0; have hc23 := ((HA.out.later HB2.out).later HB3.out).c2))
    go_wp2
    go_ret3
    have hwl : w.heap.size < w2.heap.size := by
      rcases Nat.lt_or_ge w.heap.size w2.heap.size with h | h
      · exact h
      · have h' := HRU.out; rw [Array.getElem?_eq_none h] at h'; cases h'
    exact ⟨b0, d0, some ⟨w.heap.size, 0, none⟩, m, rfl, HR3.out, (RowAt.of_block HRU.out).later rfl HB3.out, HB2.out.trans (HB3.out.mono HB2.out.size)⟩
end Go.Proofs.Qxb6606004aFmt
