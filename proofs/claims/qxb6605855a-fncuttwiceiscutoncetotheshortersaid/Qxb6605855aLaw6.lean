import Derived.Test.Qxb6605855aLogs
/-! The law 'cut twice is cut once to the shorter': the cuts and the walk. -/
namespace Go.Proofs.Qxb6605855a
open Go.RowKit Go.Sort

theorem getD_take {α : Type} (l : List α) (k j : Nat) (d : α) (h : j < k) : (l.take k).getD j d = l.getD j d := by simp [List.getD, h]

/-- A log that was cut to n1, cut again: as if it had been cut to n2 at once. -/
theorem twice {M : Nat → Prop} {S : Nat} {L r n1 n2 : Int} {at_ ar : Option Addr} {ct : Nat} {rs : List (Int × Int)} {es : List Ent} {w w6 : World} (hp : CutPre M S L r n1 at_ ar ct rs es w) (h : CutPost M S L r n1 at_ ct rs es w w6) (hn0 : 0 ≤ n2) (hn : n2 ≤ n1) :
    Calls Try.prog 17 #[.pointer (some ⟨S, 0, none⟩), .int .u64 n2] w6 fun e w7 => e = .returned (.tuple #[]) ∧ CutPost M S L r n2 at_ ct rs es w w7 := by
  obtain ⟨ho, i1, k1, a1, g1, g2, hk1, hk1l, hi1, lo1, hi1'⟩ := h
  have hl1 : (rs.take i1).length = i1 := by rw [List.length_take]; omega
  have hl2 : (es.take k1).length = k1 := by rw [List.length_take]; omega
  have hct := hp.hct
  have hs1 := hp.hl1
  have hs2 := hp.hl2
  have heL := hp.eL
  have hnL := hp.nL
  have hnn := hp.nn
  have hn10 := hp.n0
  have hpre : CutPre M S n1 r n2 at_ a1 ct (rs.take i1) (es.take k1) w6 := by
    refine ⟨?_, by omega, by omega, by omega, fun i hi => ?_, (hp.runs.later (ho.same (fun k hk => (hp.hM k hk).2))).take i1, g2, fun k hk => ⟨Nat.lt_of_lt_of_le (hp.hM k hk).1 ho.size, (hp.hM k hk).2⟩, fun i j hij hj => ?_, hn0, hn, by omega, by omega, by omega⟩
    · rw [keptTo_take, hl1, hl2]; exact g1
    · rw [getD_take _ _ _ _ (by omega)]; exact hp.by_ i (by omega)
    · rw [getD_take _ _ _ _ (by omega), getD_take _ _ _ _ (by omega)]; exact hp.up i j hij (by omega)
  refine (cut17 M S n1 r n2 at_ a1 ct _ _ w6 hpre).mono ?_
  rintro e w7 ⟨rfl, ho2, i2, k2, a2, q1, q2, q3, q4, q5, q6, q7⟩
  rw [hl2] at q3 q4
  rw [hl1] at q5 q7
  have htt : (es.take k1).take k2 = es.take k2 := by rw [List.take_take, Nat.min_eq_left q4]
  have hkt : keptTo (es.take k1) k2 = keptTo es k2 := by unfold keptTo; rw [htt]
  rw [hkt] at q1
  rw [htt] at q2
  refine ⟨rfl, ho.trans ho2, i2, k2, a2, q1, q2, by omega, by omega, by omega, fun j hj => ?_, fun j h1 h2 => ?_⟩
  · have := q6 j hj; rw [getD_take _ _ _ _ (by omega)] at this; exact this
  · by_cases hj : j < i1
    · have := q7 j h1 hj; rw [getD_take _ _ _ _ hj] at this; exact this
    · have := hi1' j (by omega) h2; omega

/-- Both logs behind the three cuts. -/
theorem both {M : Nat → Prop} {S T : Nat} {L r n : Int} {at_ bt : Option Addr} {ct dt : Nat} {rs : List (Int × Int)} {es : List Ent} {w w7 w8 : World} (hM : ∀ k, M k → k < w.heap.size ∧ k ≠ S ∧ k ≠ T) (hST : S ≠ T) (hS : RunsAt M w at_ rs) (hT : RunsAt M w bt rs)
    (ha : CutPost M S L r n at_ ct rs es w w7) (hb : CutPost M T L r n bt dt rs es w7 w8) :
    ∃ i k a' b', Holds2 M S n r at_ a' ct i k rs es w8 ∧ Holds2 M T n r bt b' dt i k rs es w8 := by
  obtain ⟨ho, i, k, a1, g1, g2, g3, g4, g5, g6, g7⟩ := ha
  obtain ⟨ho2, i2, k2, a2, q1, q2, q3, q4, q5, q6, q7⟩ := hb
  obtain rfl : k2 = k := by omega
  obtain rfl : i2 = i := by
    rcases Nat.lt_trichotomy i2 i with h | h | h
    · have h1 := g6 i2 h; have h2 := q7 i2 (Nat.le_refl _) (by omega); omega
    · exact h
    · have h1 := q6 i h; have h2 := g7 i (Nat.le_refl _) (by omega); omega
  have s1 : Same M w w7 := ho.same (fun k hk => (hM k hk).2.1)
  have s2 : Same M w7 w8 := ho2.same (fun k hk => (hM k hk).2.2)
  have hsz : ∀ j, M j → j < w8.heap.size := fun j hj => by have := (hM j hj).1; have := ho.size; have := ho2.size; omega
  exact ⟨i2, k2, a1, a2, ⟨g1.later (ho2.block S g1.lt hST), g2.later s2, (hS.later s1).later s2, hsz, g4, g5⟩, ⟨q1, q2, (hT.later s1).later s2, hsz, q4, q5⟩⟩

/-- The two logs as they were built. -/
structure Two (M : Nat → Prop) (S T : Nat) (L r : Int) (at_ bt ae be : Option Addr) (rs : List (Int × Int)) (es : List Ent) (w : World) : Prop where
  la : LogAt S L r (.slice at_ rs.length rs.length) (.slice ae es.length es.length) (keptTo es es.length : Nat) w
  lb : LogAt T L r (.slice bt rs.length rs.length) (.slice be es.length es.length) (keptTo es es.length : Nat) w
  ra : RunsAt M w at_ rs
  rb : RunsAt M w bt rs
  ea : EntsAt M true w ae es
  eb : EntsAt M true w be es
  hM : ∀ k, M k → k < w.heap.size ∧ k ≠ S ∧ k ≠ T
  hST : S ≠ T

theorem two_of {S T : Nat} {L r : Int} {at_ bt ae be : Option Addr} {rs : List (Int × Int)} {es : List Ent} {w3 w4 w5 : World}
    (_hS : w3.heap.size ≤ S) (hg : w4.heap[S]? = some (.cells #[.int .u64 L, .int .u64 r, .slice at_ rs.length rs.length, .slice ae es.length es.length, .int .i64 (keptTo es es.length : Nat), .pointer none] 77 (0, 0)))
    (ht : RunsAt (fun k => w3.heap.size ≤ k ∧ k < S) w4 at_ rs) (hae : EntsAt (fun k => w3.heap.size ≤ k ∧ k < S) true w4 ae es)
    (hT : w4.heap.size ≤ T) (hg2 : w5.heap[T]? = some (.cells #[.int .u64 L, .int .u64 r, .slice bt rs.length rs.length, .slice be es.length es.length, .int .i64 (keptTo es es.length : Nat), .pointer none] 77 (0, 0)))
    (ht2 : RunsAt (fun k => w4.heap.size ≤ k ∧ k < T) w5 bt rs) (hae2 : EntsAt (fun k => w4.heap.size ≤ k ∧ k < T) true w5 be es) (hb5 : Below w4.heap.size w4 w5) :
    Two (fun k => k < w5.heap.size ∧ k ≠ S ∧ k ≠ T) S T L r at_ bt ae be rs es w5 := by
  have la := LogAt.of_block hg
  have lb := LogAt.of_block hg2
  have h1 := la.lt
  have h2 := lb.lt
  have h3 := hb5.size
  exact ⟨la.below hb5, lb, (ht.later (Same.all hb5)).mono (fun k hk => ⟨by omega, by omega, by omega⟩), ht2.mono (fun k hk => ⟨by omega, by omega, by omega⟩), (hae.later (Same.all hb5)).mono (fun k hk => ⟨by omega, by omega, by omega⟩), hae2.mono (fun k hk => ⟨by omega, by omega, by omega⟩), fun k hk => hk, by omega⟩

theorem Two.preA {M : Nat → Prop} {S T : Nat} {L r n : Int} {at_ bt ae be : Option Addr} {rs : List (Int × Int)} {es : List Ent} {w : World} (h : Two M S T L r at_ bt ae be rs es w) (hf : Fits rs es) (hup : asc rs) (hn0 : 0 ≤ n) (hnL : n ≤ L) (hLL : L < 18446744073709551616) (hnn : n < 18446744073709551615) (heL : (es.length : Int) ≤ L) :
    CutPre M S L r n at_ ae rs.length rs es w := ⟨h.la, Nat.le_refl _, hf.1, hf.2.1, hf.2.2, h.ra, h.ea, fun k hk => ⟨(h.hM k hk).1, (h.hM k hk).2.1⟩, hup, hn0, hnL, hLL, hnn, heL⟩
theorem Two.preB {M : Nat → Prop} {S T : Nat} {L r n : Int} {at_ bt ae be : Option Addr} {rs : List (Int × Int)} {es : List Ent} {w w7 : World} (h : Two M S T L r at_ bt ae be rs es w) (ho : Only S w w7) (hf : Fits rs es) (hup : asc rs) (hn0 : 0 ≤ n) (hnL : n ≤ L) (hLL : L < 18446744073709551616) (hnn : n < 18446744073709551615) (heL : (es.length : Int) ≤ L) :
    CutPre M T L r n bt be rs.length rs es w7 :=
  have s : Same M w w7 := ho.same (fun k hk => (h.hM k hk).2.1)
  ⟨h.lb.later (ho.block T h.lb.lt (fun e => h.hST e.symm)), Nat.le_refl _, hf.1, hf.2.1, hf.2.2, h.rb.later s, h.eb.later s, fun k hk => ⟨Nat.lt_of_lt_of_le (h.hM k hk).1 ho.size, (h.hM k hk).2.2⟩, hup, hn0, hnL, hLL, hnn, heL⟩

set_option maxRecDepth 100000 in
set_option maxHeartbeats 6400000 in
theorem law6 (L r n m : Int) (a b : Option Addr) (ca cb : Nat) (rs : List (Int × Int)) (es : List Ent) (w : World) (hr : RunsAt (fun k => k < w.heap.size) w a rs) (he : EntsAt (fun k => k < w.heap.size) false w b es) (h0a : a = none → ca = 0) (h0b : b = none → cb = 0) (_hL0 : 0 ≤ L) (hLL : L < 18446744073709551616) (hn0 : 0 ≤ n) (hn9 : n < 18446744073709551616) (hm0 : 0 ≤ m) (hm9 : m < 18446744073709551616) :
    Calls Try.prog 6 #[.int .u64 L, .int .u64 r, .slice a rs.length ca, .slice b es.length cb, .int .u64 n, .int .u64 m] w fun e w' => e = .returned (.bool true) ∧ Below w.heap.size w w' := by
  have K1 := hide (bytes27_any _ L r n m a b ca cb rs es w he)
  have K2 := hide (sizeOK_any _ a b ca cb rs es w he)
  have K3 : Hid (rs.length ≤ 65536 → _) := fun h => ascending_any _ a ca rs w h hr
  have K4 : Hid (∀ q, Fits rs es → Calls Try.prog 14 #[.slice a rs.length ca] (w.drewN q) _) := fun q h => cloneRuns_any (fun k => k < w.heap.size) a ca rs (w.drewN q) h.1 hr (fun k hk => hk) h0a
  have K5 : Hid (∀ w2, Below w.heap.size w w2 → Fits rs es → Calls Try.prog 15 #[.slice b es.length cb] w2 _) := fun w2 hb h => cloneRecent_any (fun k => k < w.heap.size) b cb es w2 h.2.1 h.2.2 (he.later (Same.all hb)) (fun k hk => Nat.lt_of_lt_of_le hk hb.size) h0b
  have K6 : Hid (∀ (a1 a2 : Option Addr) (c1 c2 : Nat) (w3 : World), Fits rs es → RunsAt (fun k => k < w3.heap.size) w3 a1 rs → EntsAt (fun k => k < w3.heap.size) false w3 a2 es → Calls Try.prog 16 #[.int .u64 L, .int .u64 r, .slice a1 rs.length c1, .slice a2 es.length c2] w3 _) :=
    fun a1 a2 c1 c2 w3 h h1 h2 => buildLog_any (fun k => k < w3.heap.size) a1 a2 c1 c2 rs es L r w3 h.1 h.2.1 h.2.2 h1 h2 (fun k hk => hk)
  have KK := hide (keptTo_le es)
  clear hr he h0a h0b
  obtain ⟨nr, hnr⟩ : ∃ m, rs.length = m := ⟨_, rfl⟩
  obtain ⟨ne, hne⟩ : ∃ m, es.length = m := ⟨_, rfl⟩
  have HNR := hide hnr
  have HNE := hide hne
  rw [hnr] at K1 K2 K3 K4 K6 ⊢
  rw [hne] at K1 K2 K5 K6 ⊢
  clear hnr hne
  go_enter Try.func6, Try.ntmps6
  go_wp2_with fail
  refine K1.out.mono ?_
  rintro e w1 ⟨⟨B, rfl, _⟩, rfl⟩
  cases B
  case false =>
    go_wp2
    go_ret
    exact ⟨rfl, Below.refl _ _⟩
  go_wp2_with fail
  refine K2.out.mono ?_
  rintro e w1 ⟨⟨B, rfl, hfits⟩, rfl⟩
  cases B
  case false =>
    go_wp2
    go_ret
    exact ⟨rfl, Below.refl _ _⟩
  have HF := hide (hfits rfl)
  clear hfits
  have hnr6 : nr ≤ 65536 := by have := HF.out.1; rw [HNR.out] at this; exact this
  have hne6 : ne ≤ 65536 := by have := HF.out.2.1; rw [HNE.out] at this; exact this
  by_cases hnL : n ≤ L
  case neg =>
    go_wp2
    go_ret
    exact ⟨rfl, Below.refl _ _⟩
  by_cases hnn : n = 18446744073709551615
  case pos =>
    subst hnn
    go_wp2
    go_ret
    exact ⟨rfl, Below.refl _ _⟩
  have hd1 : decide (L < n) = false := decide_eq_false (by omega)
  have hd2 : (n == 18446744073709551615) = false := by simpa using hnn
  by_cases hmn : m ≤ n
  case neg =>
    go_wp2
    go_ret
    exact ⟨rfl, Below.refl _ _⟩
  have hd3 : decide (n < m) = false := decide_eq_false (by omega)
  by_cases heL : (ne : Int) ≤ L
  case neg =>
    go_wp2
    go_ret
    exact ⟨rfl, Below.refl _ _⟩
  have hd4 : decide (L < (ne : Int)) = false := decide_eq_false (by omega)
  go_wp2_with fail
  refine (K3.out hnr6).mono ?_
  rintro e w1 ⟨⟨B, rfl, hup⟩, q, rfl⟩
  cases B
  case false =>
    go_wp2
    go_ret
    exact ⟨rfl, ⟨rfl, rfl, rfl, Nat.le_refl _, fun _ _ => rfl⟩⟩
  have HUP := hide (hup rfl)
  clear hup
  go_wp2_with fail
  refine (K4.out q HF.out).mono ?_
  rintro e w2 ⟨ar, cr, rfl, hr2, hb2⟩
  have HR2 := hide hr2
  have HB2 : Hid (Below w.heap.size w w2) := (⟨hb2.os, hb2.tape, hb2.output, hb2.size, hb2.block⟩ : Below w.heap.size w w2)
  clear hr2 hb2
  go_wp2_with fail
  refine (K5.out w2 HB2.out HF.out).mono ?_
  rintro e w3 ⟨br, cb3, rfl, he3, hb3⟩
  have HE3 : Hid (EntsAt (fun k => k < w3.heap.size) false w3 br es) := he3.bound.mono (fun k hk => hk.2)
  have HR3 : Hid (RunsAt (fun k => k < w3.heap.size) w3 ar rs) := (HR2.out.later (Same.all hb3)).mono (fun k hk => Nat.lt_of_lt_of_le hk.2 hb3.size)
  have HB3 : Hid (Below w.heap.size w w3) := HB2.out.trans (hb3.mono HB2.out.size)
  clear he3 hb3 HR2 HB2
  go_wp2_with fail
  refine (K6.out ar br cr cb3 w3 HF.out HR3.out HE3.out).mono ?_
  rintro e w4 ⟨S, at_, ae, rfl, hg4, ht4, he4, hb4, hS4⟩
  have HE4 : Hid (EntsAt (fun k => k < w4.heap.size) false w4 br es) := (HE3.out.later (Same.all hb4)).mono (fun k hk => Nat.lt_of_lt_of_le hk hb4.size)
  have HR4 : Hid (RunsAt (fun k => k < w4.heap.size) w4 ar rs) := (HR3.out.later (Same.all hb4)).mono (fun k hk => Nat.lt_of_lt_of_le hk hb4.size)
  have HB4 : Hid (Below w.heap.size w w4) := HB3.out.trans (hb4.mono HB3.out.size)
  rw [← HNR.out, ← HNE.out] at hg4
  have G4 := hide hg4
  have T4 := hide ht4
  have E4 := hide he4
  have S4 := hide hS4
  have B34 := hide hb4.size
  clear hg4 ht4 he4 hb4 hS4
  go_wp2_with fail
  refine (K6.out ar br cr cb3 w4 HF.out HR4.out HE4.out).mono ?_
  rintro e w5 ⟨T, bt, be, rfl, hg5, ht5, he5, hb5, hT5⟩
  rw [← HNR.out, ← HNE.out] at hg5
  have TW := hide (two_of S4.out G4.out T4.out E4.out hT5 hg5 ht5 he5 hb5)
  have HB5 : Hid (Below w.heap.size w w5) := HB4.out.trans (hb5.mono HB4.out.size)
  have HSz : Hid (w.heap.size ≤ S ∧ w.heap.size ≤ T) := And.intro (by have := HB3.out.size; have := S4.out; omega) (by have := HB4.out.size; omega)
  clear hg5 ht5 he5 hb5 hT5 G4 T4 E4 S4 B34 HE4 HR4 HE3 HR3 HB3 HB4 K1 K2 K3 K4 K5 K6
  generalize hMM : (fun k => k < w5.heap.size ∧ k ≠ S ∧ k ≠ T) = M at TW
  clear hMM
  have heL' : Hid ((es.length : Int) ≤ L) := by show _ ≤ _; rw [HNE.out]; exact heL
  have PA := hide (TW.out.preA (n := n) HF.out HUP.out hn0 hnL hLL (by omega) heL'.out)
  go_wp2_with fail
  refine (cut17 _ _ _ _ _ _ _ _ _ _ w5 PA.out).mono ?_
  rintro e w6 ⟨rfl, hc6⟩
  have C6 := hide hc6
  clear hc6
  go_wp2_with fail
  refine (twice PA.out C6.out hm0 hmn).mono ?_
  rintro e w7 ⟨rfl, hc7⟩
  have C7 := hide hc7
  have PB := hide (TW.out.preB (n := m) hc7.only HF.out HUP.out hm0 (by omega) hLL (by omega) heL'.out)
  clear hc7 C6 PA
  go_wp2_with fail
  refine (cut17 _ _ _ _ _ _ _ _ _ _ w7 PB.out).mono ?_
  rintro e w8 ⟨rfl, hc8⟩
  have HB8 : Hid (Below w.heap.size w w8) := by
    have h5 := HB5.out.size
    have h7 := C7.out.only.size
    exact (HB5.out.trans (C7.out.only.below h5 HSz.out.1)).trans (hc8.only.below (by omega) HSz.out.2)
  obtain ⟨i, k, a', b', hA, hB⟩ := both TW.out.hM TW.out.hST TW.out.ra TW.out.rb C7.out hc8
  have HA := hide hA
  have HB := hide hB
  have hkn : k ≤ ne := by rw [← HNE.out]; exact hA.hk
  have KS : Hid (∀ w9, Below w8.heap.size w8 w9 → Calls Try.prog 28 #[.pointer (some ⟨S, 0, none⟩), .pointer (some ⟨T, 0, none⟩)] w9 fun e w' => e = .returned (.bool true) ∧ Below w9.heap.size w9 w') := fun w9 h => sameLogs_any M S T m r at_ bt a' b' _ _ i k rs es w9 HF.out (hA.later h) (hB.later h)
  have HKB := hide (KK.out HF.out.2.2)
  have hdm : (m != m) = false := by simp
  clear hA hB hc8 C7 PB TW HSz HB5
  go_wp2_with fail
  refine (logLength_any T m r _ _ _ w8 HB.out.log).mono ?_
  rintro e w9 ⟨rfl, rfl⟩
  go_wp2_with fail
  refine (logRecent_any T m r _ _ _ _ _ w8 HB.out.log).mono ?_
  rintro e w9 ⟨rfl, rfl⟩
  go_wp2_with fail
  go_loopw [16, 17] (fun s1 s2 wr => ∃ j : Nat, j ≤ k ∧ s2 = .int .i64 j ∧ s1 = .int .i64 (keptTo es j : Nat) ∧ w8 = wr) (fun _ i _ => k - (intOf i).toNat)
  case atStart => exact ⟨0, Nat.zero_le _, rfl, by rw [keptTo_zero]; rfl, by trivial⟩
  case round =>
    obtain ⟨j, hj, rfl, rfl, rfl⟩ := hrel
    by_cases hlt : j < k
    · have hjn : j < ne := by omega
      obtain ⟨bg, og, hx, hbg, pa, pc, hE, -⟩ := HB.out.got.at (n := k) (by rw [List.length_take, HNE.out]; omega) hlt
      cases hx
      have hke := keptTo_succ es j (by rw [HNE.out]; exact hjn)
      have hby := HF.out.2.2 j (by rw [HNE.out]; exact hjn)
      have hkj := HKB.out j (by rw [HNE.out]; omega)
      have s4 := hE.c4
      rw [getD_take _ _ _ _ hlt] at s4
      obtain ⟨l, hl⟩ : ∃ l, (es.getD j noEnt).bs.length = l := ⟨_, rfl⟩
      rw [hl] at s4 hke hby
      have HKE := hide hke
      clear hE hl hke
      obtain ⟨kj, hkj'⟩ : ∃ kj, keptTo es j = kj := ⟨_, rfl⟩
      have HKJ := hide hkj'
      rw [hkj'] at hkj ⊢
      clear hkj'
      have hlt' : (j : Int) < (k : Int) := by omega
      go_wp2
      go_roundw
      case rel => exact ⟨j + 1, by omega, by go_num, by rw [HKE.out, HKJ.out]; go_num, by trivial⟩
      case measure => simp [intOf]; omega
    · obtain rfl : j = k := by omega
      obtain ⟨K, hK⟩ : ∃ K : Int, ((keptTo es j : Nat) : Int) = K := ⟨_, rfl⟩
      have G := HB.out.log
      rw [hK] at G ⊢
      have HG := hide G
      clear G hK
      have hKK : (K != K) = false := by simp
      go_wp2_with fail
      refine (logKept_any T m r _ _ _ w8 HG.out).mono ?_
      rintro e w9 ⟨rfl, rfl⟩
      go_wp2_with fail
      refine (KS.out w8 (Below.refl _ _)).mono ?_
      rintro e w9 ⟨rfl, hb9⟩
      have HB9 := hide hb9
      clear hb9
      go_wp2
      go_ret
      exact ⟨rfl, HB8.out.trans (HB9.out.mono HB8.out.size)⟩
end Go.Proofs.Qxb6605855a
