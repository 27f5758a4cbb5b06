import Derived.Test.Qxb6606004aWalkD
import Derived.OpenShut
namespace Go.Proofs.Qxb6606004a
open Go.RowKit

theorem count_lt_at {xs : List Int} (hs : strict xs = true) {k : Nat} (hk : k < xs.length) : xs.countP (fun y => decide (y < xs.getD k 0)) = k :=
  countP_at _ xs k (by omega) (fun i hi => by simpa using strict_lt hs hi hk) (fun i h1 h2 => by
    simp only [decide_eq_false_iff_not]
    by_cases e : i = k
    · subst e; omega
    · have := strict_lt hs (show k < i by omega) h2; omega)

theorem count_lt_succ {xs : List Int} (hs : strict xs = true) {k : Nat} (hk : k < xs.length) : xs.countP (fun y => decide (y < xs.getD k 0 + 1)) = k + 1 :=
  countP_at _ xs (k + 1) (by omega) (fun i hi => by
    simp only [decide_eq_true_eq]
    by_cases e : i = k
    · subst e; omega
    · have := strict_lt hs (show i < k by omega) hk; omega) (fun i h1 h2 => by
    simp only [decide_eq_false_iff_not]
    have := strict_lt hs (show k < i by omega) h2; omega)

set_option maxHeartbeats 800000 in
theorem law6_main (a0 a1 : Option Addr) (c0 c1 : Nat) (xs us : List Int) (f : Int) (w : World) (hr0 : RowAt w a0 xs) (h0 : a0 = none → c0 = 0) (hr1 : RowAt w a1 us) (h1 : a1 = none → c1 = 0)
    (hlen : 8 * xs.length + 8 * us.length ≤ 1048576) (hwf : wfArr xs us f = true) (hbd : ∀ i, i < xs.length → -9223372036854775808 ≤ xs.getD i 0 ∧ xs.getD i 0 ≤ 9223372036854775807) :
    Calls Try.prog 6 #[.slice a0 xs.length c0, .slice a1 us.length c1, .int .i64 f] w fun e w' => e = .returned (.bool true) ∧ Below w.heap.size w w' := by
  have hff := (wfArr_true hwf).1
  have hst := (wfArr_true hwf).2.2.1
  have hnd := strict_nondec hst
  have HST := hide hst
  have HBD := hide hbd
  have K0 := hide (bytes20 a0 a1 xs.length c0 us.length c1 f w)
  have K1 := hide (wf_any a0 a1 c0 c1 xs us f w (by omega) (by omega) hr0 hr1)
  rw [decide_eq_true (show xs.length + us.length ≤ 1048576 by omega)] at K0
  rw [hwf] at K1
  have K2 := hide (fun q => cloneI64_any a0 c0 xs (w.drewN q) (by omega) (hr0.later rfl (below_drewN (Below.refl _ _) q)) h0)
  have K3 := hide (fun w1 hw => cloneInt_any a1 c1 us w1 (by omega) (hr1.later (w' := w1) rfl hw) h1)
  have K4 := hide (fun a c a1 c1 w1 hr h0 => newArrivals a a1 c us.length c1 f xs w1 (by omega) hr h0)
  have K5 := hide (fun t S c a w1 hS hrow => index19 S c a xs t w1 (by omega) hS hrow hnd)
  clear hr0 hr1 h0 h1 hnd hwf hst hbd
  rw [hff] at K0 K1 K3 K4 hlen ⊢
  clear hff
  obtain ⟨n, hn⟩ : ∃ n, xs.length = n := ⟨_, rfl⟩
  have HN := hide hn
  rw [hn] at K0 K1 K2 K3 K4 K5 hlen ⊢
  clear hn
  go_enter Try.func6, Try.ntmps6
  go_wp2_with fail
  refine K0.out.mono ?_
  rintro e w' ⟨rfl, rfl⟩
  go_wp2_with fail
  refine K1.out.mono ?_
  rintro e w1 ⟨rfl, q, rfl⟩
  go_wp2_with fail
  refine (K2.out q).mono ?_
  rintro e w1 ⟨a2, c2, rfl, hrow, h0, hb1⟩
  replace hb1 : Below w.heap.size w w1 := (below_drewN (Below.refl _ w) q).trans hb1
  have HROW := hide hrow
  have H0 := hide h0
  clear hrow h0
  go_wp2_with fail
  refine (K3.out w1 hb1).mono ?_
  rintro e w2 ⟨a3, c3, rfl, hrow3, h3, hb2⟩
  replace HROW := hide (HROW.out.later rfl hb2)
  replace hb2 := hb1.trans (hb2.mono hb1.size)
  clear hb1 hrow3 h3
  go_wp2_with fail
  refine (K4.out a2 c2 a3 c3 w2 HROW.out H0.out).mono ?_
  rintro e w3 ⟨S, a4, c4, rfl, hS, hrow4, hb3⟩
  replace HROW := hide (HROW.out.later rfl hb3)
  replace hb3 := hb2.trans (hb3.mono hb2.size)
  clear hb2
  have HS := hide hS
  have HROW4 := hide hrow4
  clear hS hrow4 K0 K1 K2 K3 K4 H0
  go_wp2
  go_loopw [9] (fun s9 wr => ∃ k : Nat, k ≤ n ∧ s9 = .int .i64 k ∧ Hid (RowAt wr a2 xs ∧ RowAt wr a4 xs ∧ wr.cell? ⟨S, 0, none⟩ = some (.slice a4 n c4) ∧ Below w.heap.size w wr)) (fun i _ => n - (intOf i).toNat)
  case atStart => exact ⟨0, Nat.zero_le _, rfl, (⟨HROW.out, HROW4.out, HS.out, hb3⟩ : _ ∧ _ ∧ _ ∧ _)⟩
  case round =>
    clear HROW HROW4 HS hb3
    obtain ⟨k, hk, rfl, I⟩ := hrel
    by_cases hlt : k < n
    · obtain ⟨b, off, hx, hb, hsrc⟩ := I.out.1.at HN.out hlt
      cases hx
      have L1 := hide (K5.out (xs.getD k 0) S c4 a4 wr I.out.2.2.1 I.out.2.1)
      have L2 := hide (fun w1 hS hrow => K5.out (xs.getD k 0 + 1) S c4 a4 w1 hS hrow)
      have hbd := HBD.out k (by rw [HN.out]; exact hlt)
      rw [count_lt_at HST.out (by rw [HN.out]; exact hlt)] at L1
      simp only [count_lt_succ HST.out (show k < xs.length by rw [HN.out]; exact hlt)] at L2
      generalize xs.getD k 0 = x at hsrc L1 L2 hbd
      obtain ⟨hx1, hx2⟩ := hbd
      by_cases hmx : x < 9223372036854775807
      · go_wp2_with fail
        refine L1.out.mono ?_
        rintro e w1 ⟨rfl, hb1⟩
        have hsrc1 := (hb1.cell hb).trans hsrc
        have I1 : Hid (RowAt w1 (some ⟨b, off, none⟩) xs ∧ RowAt w1 a4 xs ∧ w1.cell? ⟨S, 0, none⟩ = some (.slice a4 n c4) ∧ Below w.heap.size w w1) :=
          ⟨I.out.1.later rfl hb1, I.out.2.1.later rfl hb1, (hb1.cell (block_lt I.out.2.2.1)).trans I.out.2.2.1, I.out.2.2.2.trans (hb1.mono I.out.2.2.2.size)⟩
        clear hb1
        go_wp2_with fail
        refine (L2.out w1 I1.out.2.2.1 I1.out.2.1).mono ?_
        rintro e w2 ⟨rfl, hb2⟩
        have I2 : Hid (RowAt w2 (some ⟨b, off, none⟩) xs ∧ RowAt w2 a4 xs ∧ w2.cell? ⟨S, 0, none⟩ = some (.slice a4 n c4) ∧ Below w.heap.size w w2) :=
          ⟨I1.out.1.later rfl hb2, I1.out.2.1.later rfl hb2, (hb2.cell (block_lt I1.out.2.2.1)).trans I1.out.2.2.1, I1.out.2.2.2.trans (hb2.mono I1.out.2.2.2.size)⟩
        clear hb2
        go_wp2
        go_roundw
        case rel => exact ⟨k + 1, by omega, by go_num, I2⟩
        case measure => simp [intOf]; omega
      · go_wp2_with fail
        refine L1.out.mono ?_
        rintro e w1 ⟨rfl, hb1⟩
        have hsrc1 := (hb1.cell hb).trans hsrc
        have I1 : Hid (RowAt w1 (some ⟨b, off, none⟩) xs ∧ RowAt w1 a4 xs ∧ w1.cell? ⟨S, 0, none⟩ = some (.slice a4 n c4) ∧ Below w.heap.size w w1) :=
          ⟨I.out.1.later rfl hb1, I.out.2.1.later rfl hb1, (hb1.cell (block_lt I.out.2.2.1)).trans I.out.2.2.1, I.out.2.2.2.trans (hb1.mono I.out.2.2.2.size)⟩
        clear hb1
        go_wp2
        go_roundw
        case rel => exact ⟨k + 1, by omega, by go_num, I1⟩
        case measure => simp [intOf]; omega
    · go_wp2
      go_ret
      exact ⟨rfl, I.out.2.2.2⟩

set_option maxHeartbeats 800000 in
/-- The ways that return at once. -/
theorem law6_out (a0 a1 : Option Addr) (c0 c1 n m : Nat) (f : Int) (w : World) (wf : Bool) (hn : n ≤ 1048576 → m ≤ 1048576 → Calls Try.prog 16 #[.slice a0 n c0, .slice a1 m c1, .int .i64 f] w fun e w' => e = .returned (.bool wf) ∧ ∃ q, w' = w.drewN q)
    (h : ¬ (8 * n + 8 * m ≤ 1048576 ∧ wf = true)) :
    Calls Try.prog 6 #[.slice a0 n c0, .slice a1 m c1, .int .i64 f] w fun e w' => e = .returned (.bool true) ∧ Below w.heap.size w w' := by
  have HN := hide hn
  clear hn
  have K0 := hide (bytes20 a0 a1 n c0 m c1 f w)
  by_cases hA : n + m ≤ 1048576
  · rw [decide_eq_true hA] at K0
    by_cases hB : (131072 : Int) < (n : Int)
    · clear h
      go_enter Try.func6, Try.ntmps6
      go_wp2_with fail
      refine K0.out.mono ?_
      rintro e w' ⟨rfl, rfl⟩
      go_wp2
      go_ret
      exact ⟨rfl, Below.refl _ _⟩
    by_cases hC : (131072 : Int) < (m : Int)
    · clear h
      go_enter Try.func6, Try.ntmps6
      go_wp2_with fail
      refine K0.out.mono ?_
      rintro e w' ⟨rfl, rfl⟩
      go_wp2
      go_ret
      exact ⟨rfl, Below.refl _ _⟩
    by_cases hD : (1048576 : Int) < 8 * (n : Int) + 8 * (m : Int)
    · clear h
      go_enter Try.func6, Try.ntmps6
      go_wp2_with fail
      refine K0.out.mono ?_
      rintro e w' ⟨rfl, rfl⟩
      go_wp2
      go_ret
      exact ⟨rfl, Below.refl _ _⟩
    have hnd : wf = false := by
      cases wf with
      | false => rfl
      | true => exact absurd ⟨by omega, rfl⟩ h
    subst hnd
    clear h
    have K1 := hide (HN.out (by omega) (by omega))
    clear HN
    go_enter Try.func6, Try.ntmps6
    go_wp2_with fail
    refine K0.out.mono ?_
    rintro e w' ⟨rfl, rfl⟩
    go_wp2_with fail
    refine K1.out.mono ?_
    rintro e w1 ⟨rfl, q, rfl⟩
    go_wp2
    go_ret
    exact ⟨rfl, below_drewN (Below.refl _ _) q⟩
  · rw [decide_eq_false hA] at K0
    clear h
    go_enter Try.func6, Try.ntmps6
    go_wp2_with fail
    refine K0.out.mono ?_
    rintro e w' ⟨rfl, rfl⟩
    go_wp2
    go_ret
    exact ⟨rfl, Below.refl _ _⟩

theorem law6 (a0 a1 : Option Addr) (c0 c1 : Nat) (xs us : List Int) (f : Int) (w : World) (hr0 : RowAt w a0 xs) (h0 : a0 = none → c0 = 0) (hr1 : RowAt w a1 us) (h1 : a1 = none → c1 = 0) (hw0 : ∀ n ∈ xs, (Lit.int .i64 n).wf = true) :
    Calls Try.prog 6 #[.slice a0 xs.length c0, .slice a1 us.length c1, .int .i64 f] w fun e w' => e = .returned (.bool true) ∧ Below w.heap.size w w' := by
  by_cases h : 8 * xs.length + 8 * us.length ≤ 1048576 ∧ wfArr xs us f = true
  · refine law6_main a0 a1 c0 c1 xs us f w hr0 h0 hr1 h1 h.1 h.2 (fun i hi => ?_)
    simpa [List.getD] using range_i64 hw0 i
  · exact law6_out a0 a1 c0 c1 xs.length us.length f w (wfArr xs us f) (fun hl hl' => wf_any a0 a1 c0 c1 xs us f w hl hl' hr0 hr1) h
end Go.Proofs.Qxb6606004a
