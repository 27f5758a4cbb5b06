import Derived.Test.Qxb6606004aWalkD
namespace Go.Proofs.Qxb6606004a
open Go.RowKit

set_option maxHeartbeats 800000 in
theorem law5_main (a0 a1 : Option Addr) (c0 c1 : Nat) (xs us : List Int) (f t : Int) (w : World) (hr0 : RowAt w a0 xs) (h0 : a0 = none → c0 = 0) (hr1 : RowAt w a1 us) (h1 : a1 = none → c1 = 0)
    (hlen : 8 * xs.length + 8 * us.length ≤ 1048576) (hwf : wfArr xs us f = true) :
    Calls Try.prog 5 #[.slice a0 xs.length c0, .slice a1 us.length c1, .int .i64 f, .int .i64 t] w fun e w' => e = .returned (.bool true) ∧ Below w.heap.size w w' := by
  have hff := (wfArr_true hwf).1
  have hnd := strict_nondec (wfArr_true hwf).2.2.1
  have K0 := hide (bytes15 a0 a1 xs.length c0 us.length c1 f t w)
  have K1 := hide (wf_any a0 a1 c0 c1 xs us f w (by omega) (by omega) hr0 hr1)
  rw [decide_eq_true (show xs.length + us.length ≤ 1048576 by omega)] at K0
  rw [hwf] at K1
  have K2 := hide (fun q => cloneI64_any a0 c0 xs (w.drewN q) (by omega) (hr0.later rfl (below_drewN (Below.refl _ _) q)) h0)
  have K3 := hide (fun w1 hw => cloneInt_any a1 c1 us w1 (by omega) (hr1.later (w' := w1) rfl hw) h1)
  have K4 := hide (fun a c a1 c1 w1 hr h0 => newArrivals a a1 c us.length c1 f xs w1 (by omega) hr h0)
  have K5 := hide (fun S c a w1 hS hrow => index19 S c a xs t w1 (by omega) hS hrow hnd)
  clear hr0 hr1 h0 h1 hnd hwf
  rw [hff] at K0 K1 K3 K4 hlen ⊢
  clear hff
  obtain ⟨n, hn⟩ : ∃ n, xs.length = n := ⟨_, rfl⟩
  have HN := hide hn
  rw [hn] at K0 K1 K2 K3 K4 K5 hlen ⊢
  clear hn
  obtain ⟨R, hR⟩ : ∃ R : Nat, xs.countP (fun x => decide (x < t)) = R := ⟨_, rfl⟩
  have HR := hide hR
  rw [hR] at K5
  clear hR
  go_enter Try.func5, Try.ntmps5
  go_wp2_with fail
  refine K0.out.mono ?_
  rintro e w' ⟨rfl, rfl⟩
  go_wp2_with fail
  refine K1.out.mono ?_
  rintro e w1 ⟨rfl, q, rfl⟩
  go_wp2_with fail
  refine (K2.out q).mono ?_
  rintro e w1 ⟨a2, c2, rfl, hrow, h0, hb1⟩
  replace hb1 : Below w.heap.size w w1 := (below_drewN (Below.refl _ w) q).trans hb1
  have HROW := hide hrow
  have H0 := hide h0
  clear hrow h0
  go_wp2_with fail
  refine (K3.out w1 hb1).mono ?_
  rintro e w2 ⟨a3, c3, rfl, hrow3, h3, hb2⟩
  replace HROW := hide (HROW.out.later rfl hb2)
  replace hb2 := hb1.trans (hb2.mono hb1.size)
  clear hb1 hrow3 h3
  go_wp2_with fail
  refine (K4.out a2 c2 a3 c3 w2 HROW.out H0.out).mono ?_
  rintro e w3 ⟨S, a4, c4, rfl, hS, hrow4, hb3⟩
  replace HROW := hide (HROW.out.later rfl hb3)
  replace hb3 := hb2.trans (hb3.mono hb2.size)
  clear hb2
  have HS := hide hS
  have HROW4 := hide hrow4
  clear hS hrow4
  go_wp2_with fail
  refine (K5.out S c4 a4 w3 HS.out HROW4.out).mono ?_
  rintro e w4 ⟨rfl, hb4⟩
  replace HROW := hide (HROW.out.later rfl hb4)
  replace hb4 := hb3.trans (hb4.mono hb3.size)
  clear hb3 HS HROW4 K0 K1 K2 K3 K4 K5 H0
  go_wp2
  go_loop [11, 12] (fun s9 s10 => ∃ k : Nat, k ≤ n ∧ s10 = .int .i64 k ∧ s9 = .int .i64 (countTo (fun x => decide (x < t)) xs k : Nat)) (fun _ i => n - (intOf i).toNat)
  case atStart => exact ⟨0, Nat.zero_le _, rfl, rfl⟩
  case round =>
    obtain ⟨k, hk, rfl, rfl⟩ := hrel
    have hle := countTo_le (fun x => decide (x < t)) xs k
    by_cases hlt : k < n
    · obtain ⟨b, off, hx, hb, hsrc⟩ := HROW.out.at HN.out hlt
      cases hx
      have HC := hide (countTo_succ (fun x => decide (x < t)) xs k (by rw [HN.out]; exact hlt))
      generalize countTo (fun x => decide (x < t)) xs k = C at hle HC
      generalize xs.getD k 0 = x at hsrc HC
      by_cases hxt : x < t
      · go_wp2
        go_round
        case rel => exact ⟨k + 1, by omega, by go_num, by rw [HC.out, if_pos (decide_eq_true hxt)]; go_num⟩
        case measure => simp [intOf]; omega
      · go_wp2
        go_round
        case rel => exact ⟨k + 1, by omega, by go_num, by rw [HC.out, if_neg (by simpa using hxt)]; go_num⟩
        case measure => simp [intOf]; omega
    · obtain rfl : k = n := by omega
      have hC : countTo (fun x => decide (x < t)) xs k = R := by rw [countTo_all _ _ _ HN.out, HR.out]
      rw [hC] at hle ⊢
      clear hC
      go_wp2
      go_ret
      exact ⟨by simp, hb4⟩

set_option maxHeartbeats 800000 in
/-- The ways that return at once. -/
theorem law5_out (a0 a1 : Option Addr) (c0 c1 n m : Nat) (f t : Int) (w : World) (wf : Bool) (hn : n ≤ 1048576 → m ≤ 1048576 → Calls Try.prog 16 #[.slice a0 n c0, .slice a1 m c1, .int .i64 f] w fun e w' => e = .returned (.bool wf) ∧ ∃ q, w' = w.drewN q)
    (h : ¬ (8 * n + 8 * m ≤ 1048576 ∧ wf = true)) :
    Calls Try.prog 5 #[.slice a0 n c0, .slice a1 m c1, .int .i64 f, .int .i64 t] w fun e w' => e = .returned (.bool true) ∧ Below w.heap.size w w' := by
  have HN := hide hn
  clear hn
  have K0 := hide (bytes15 a0 a1 n c0 m c1 f t w)
  by_cases hA : n + m ≤ 1048576
  · rw [decide_eq_true hA] at K0
    by_cases hB : (131072 : Int) < (n : Int)
    · clear h
      go_enter Try.func5, Try.ntmps5
      go_wp2_with fail
      refine K0.out.mono ?_
      rintro e w' ⟨rfl, rfl⟩
      go_wp2
      go_ret
      exact ⟨rfl, Below.refl _ _⟩
    by_cases hC : (131072 : Int) < (m : Int)
    · clear h
      go_enter Try.func5, Try.ntmps5
      go_wp2_with fail
      refine K0.out.mono ?_
      rintro e w' ⟨rfl, rfl⟩
      go_wp2
      go_ret
      exact ⟨rfl, Below.refl _ _⟩
    by_cases hD : (1048576 : Int) < 8 * (n : Int) + 8 * (m : Int)
    · clear h
      go_enter Try.func5, Try.ntmps5
      go_wp2_with fail
      refine K0.out.mono ?_
      rintro e w' ⟨rfl, rfl⟩
      go_wp2
      go_ret
      exact ⟨rfl, Below.refl _ _⟩
    have hnd : wf = false := by
      cases wf with
      | false => rfl
      | true => exact absurd ⟨by omega, rfl⟩ h
    subst hnd
    clear h
    have K1 := hide (HN.out (by omega) (by omega))
    clear HN
    go_enter Try.func5, Try.ntmps5
    go_wp2_with fail
    refine K0.out.mono ?_
    rintro e w' ⟨rfl, rfl⟩
    go_wp2_with fail
    refine K1.out.mono ?_
    rintro e w1 ⟨rfl, q, rfl⟩
    go_wp2
    go_ret
    exact ⟨rfl, below_drewN (Below.refl _ _) q⟩
  · rw [decide_eq_false hA] at K0
    clear h
    go_enter Try.func5, Try.ntmps5
    go_wp2_with fail
    refine K0.out.mono ?_
    rintro e w' ⟨rfl, rfl⟩
    go_wp2
    go_ret
    exact ⟨rfl, Below.refl _ _⟩

theorem law5 (a0 a1 : Option Addr) (c0 c1 : Nat) (xs us : List Int) (f t : Int) (w : World) (hr0 : RowAt w a0 xs) (h0 : a0 = none → c0 = 0) (hr1 : RowAt w a1 us) (h1 : a1 = none → c1 = 0) :
    Calls Try.prog 5 #[.slice a0 xs.length c0, .slice a1 us.length c1, .int .i64 f, .int .i64 t] w fun e w' => e = .returned (.bool true) ∧ Below w.heap.size w w' := by
  by_cases h : 8 * xs.length + 8 * us.length ≤ 1048576 ∧ wfArr xs us f = true
  · exact law5_main a0 a1 c0 c1 xs us f t w hr0 h0 hr1 h1 h.1 h.2
  · exact law5_out a0 a1 c0 c1 xs.length us.length f t w (wfArr xs us f) (fun hl hl' => wf_any a0 a1 c0 c1 xs us f w hl hl' hr0 hr1) h
end Go.Proofs.Qxb6606004a
