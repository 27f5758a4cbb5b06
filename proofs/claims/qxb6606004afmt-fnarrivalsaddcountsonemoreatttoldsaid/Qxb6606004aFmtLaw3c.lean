import Derived.Test.Qxb6606004aFmtLaw3b
namespace Go.Proofs.Qxb6606004aFmt
open Go.RowKit

set_option maxRecDepth 100000 in
set_option maxHeartbeats 800000 in
/-- The ways that return at once. -/
theorem law3_out (a0 a1 : Option Addr) (c0 c1 n m : Nat) (f t : Int) (w : World) (wf : Bool) (hn : n ≤ 1048576 → m ≤ 1048576 → Calls Tryf.prog 7 #[.slice a0 n c0, .slice a1 m c1, .int .i64 f] w fun e w' => e = .returned (.bool wf) ∧ ∃ q, w' = w.drewN q)
    (h : ¬ (8 * n + 8 * m ≤ 1048576 ∧ wf = true)) :
    Calls Tryf.prog 3 #[.slice a0 n c0, .slice a1 m c1, .int .i64 f, .int .i64 t] w fun e w' => e = .returned (.bool true) ∧ Below w.heap.size w w' := by
  have HN := hide hn
  clear hn
  have K0 := hide (bytes6 a0 a1 n c0 m c1 f t w)
  by_cases hA : n + m ≤ 1048576
  · rw [decide_eq_true hA] at K0
    by_cases hB : (131072 : Int) < (n : Int)
    · clear h
      go_enter Tryf.func3, Tryf.ntmps3
      go_wp2_with fail
      refine K0.out.mono ?_
      rintro e w' ⟨rfl, rfl⟩
      go_wp2
      go_ret
      exact ⟨rfl, Below.refl _ _⟩
    by_cases hC : (131072 : Int) < (m : Int)
    · clear h
      go_enter Tryf.func3, Tryf.ntmps3
      go_wp2_with fail
      refine K0.out.mono ?_
      rintro e w' ⟨rfl, rfl⟩
      go_wp2
      go_ret
      exact ⟨rfl, Below.refl _ _⟩
    by_cases hD : (1048576 : Int) < 8 * (n : Int) + 8 * (m : Int)
    · clear h
      go_enter Tryf.func3, Tryf.ntmps3
      go_wp2_with fail
      refine K0.out.mono ?_
      rintro e w' ⟨rfl, rfl⟩
      go_wp2
      go_ret
      exact ⟨rfl, Below.refl _ _⟩
    have hnd : wf = false := by
      cases wf with
      | false => rfl
      | true => exact absurd ⟨by omega, rfl⟩ h
    subst hnd
    clear h
    have K1 := hide (HN.out (by omega) (by omega))
    clear HN
    go_enter Tryf.func3, Tryf.ntmps3
    go_wp2_with fail
    refine K0.out.mono ?_
    rintro e w' ⟨rfl, rfl⟩
    go_wp2_with fail
    refine K1.out.mono ?_
    rintro e w1 ⟨rfl, q, rfl⟩
    go_wp2
    go_ret
    exact ⟨rfl, below_drewN (Below.refl _ _) q⟩
  · rw [decide_eq_false hA] at K0
    clear h
    go_enter Tryf.func3, Tryf.ntmps3
    go_wp2_with fail
    refine K0.out.mono ?_
    rintro e w' ⟨rfl, rfl⟩
    go_wp2
    go_ret
    exact ⟨rfl, Below.refl _ _⟩


set_option maxRecDepth 100000 in
set_option maxHeartbeats 800000 in
/-- A time before the last recorded one: true at once. -/
theorem law3_early (a0 a1 : Option Addr) (c0 c1 : Nat) (xs us : List Int) (f t : Int) (w : World) (hr0 : RowAt w a0 xs) (hr1 : RowAt w a1 us)
    (hlen : 8 * xs.length + 8 * us.length ≤ 1048576) (hwf : wfArr xs us f = true) (hp : 0 < xs.length) (ht : t < xs.getD (xs.length - 1) 0) :
    Calls Tryf.prog 3 #[.slice a0 xs.length c0, .slice a1 us.length c1, .int .i64 f, .int .i64 t] w fun e w' => e = .returned (.bool true) ∧ Below w.heap.size w w' := by
  have hff := (wfArr_true hwf).1
  have K0 := hide (bytes6 a0 a1 xs.length c0 us.length c1 f t w)
  have K1 := hide (wf_any a0 a1 c0 c1 xs us f w (by omega) (by omega) hr0 hr1)
  rw [decide_eq_true (show xs.length + us.length ≤ 1048576 by omega)] at K0
  rw [hwf] at K1
  obtain ⟨b, off, rfl, hbl, hsrc⟩ := hr0.at rfl (show xs.length - 1 < xs.length by omega)
  generalize xs.getD (xs.length - 1) 0 = x at hsrc ht
  have hn0 : 0 < (us.length : Int) := by omega
  rw [← hff] at K0 K1 hlen hsrc ⊢
  clear hr0 hr1 hwf hff hp
  generalize us.length = n at *
  go_enter Tryf.func3, Tryf.ntmps3
  go_wp2_with fail
  refine K0.out.mono ?_
  rintro e w' ⟨rfl, rfl⟩
  go_wp2_with fail
  refine K1.out.mono ?_
  rintro e w1 ⟨rfl, q, rfl⟩
  go_wp2
  go_ret
  exact ⟨rfl, below_drewN (Below.refl _ _) q⟩

theorem law3 (a0 a1 : Option Addr) (c0 c1 : Nat) (xs us : List Int) (f t : Int) (w : World) (hr0 : RowAt w a0 xs) (h0 : a0 = none → c0 = 0) (hr1 : RowAt w a1 us) (h1 : a1 = none → c1 = 0) :
    Calls Tryf.prog 3 #[.slice a0 xs.length c0, .slice a1 us.length c1, .int .i64 f, .int .i64 t] w fun e w' => e = .returned (.bool true) ∧ Below w.heap.size w w' := by
  by_cases h : 8 * xs.length + 8 * us.length ≤ 1048576 ∧ wfArr xs us f = true
  · obtain ⟨hlen, hwf⟩ := h
    have hst := (wfArr_true hwf).2.2.1
    rcases Nat.eq_zero_or_pos xs.length with hz | hp
    · exact law3_new a0 a1 c0 c1 xs us f t w hr0 h0 hr1 h1 hlen hwf (fun i hi => by omega)
    · rcases Int.lt_trichotomy t (xs.getD (xs.length - 1) 0) with ht | ht | ht
      · exact law3_early a0 a1 c0 c1 xs us f t w hr0 hr1 hlen hwf hp ht
      · exact law3_same a0 a1 c0 c1 (xs.length - 1) xs us f t w hr0 h0 hr1 h1 hlen hwf (by omega) ht.symm
      · refine law3_new a0 a1 c0 c1 xs us f t w hr0 h0 hr1 h1 hlen hwf (fun i hi => ?_)
        by_cases e : i = xs.length - 1
        · subst e; exact ht
        · have := strict_lt hst (show i < xs.length - 1 by omega) (by omega); omega
  · exact law3_out a0 a1 c0 c1 xs.length us.length f t w (wfArr xs us f) (fun hl hl' => wf_any a0 a1 c0 c1 xs us f w hl hl' hr0 hr1) h
end Go.Proofs.Qxb6606004aFmt
