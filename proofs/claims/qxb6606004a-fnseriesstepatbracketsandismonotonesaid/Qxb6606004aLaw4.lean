import Derived.Test.Qxb6606004aWalkC
namespace Go.Proofs.Qxb6606004a
open Go.RowKit

theorem br_none (a : Option Addr) (cap : Nat) (t : Int) (w : World) : Calls Try.prog 14 #[.slice a 0 cap, .int .i64 t, .int .i64 (-1)] w fun e w' => e = .returned (.bool true) ∧ w = w' := by
  go_enter Try.func14, Try.ntmps14
  go_wp2
  go_ret
  exact ⟨rfl, rfl⟩

theorem br_first (b off n cap : Nat) (t y : Int) (w : World) (hn : 0 < n) (hlen : n ≤ 1048576) (hc : w.cell? ⟨b, off, none⟩ = some (.int .i64 y)) (hy : t < y) :
    Calls Try.prog 14 #[.slice (some ⟨b, off, none⟩) n cap, .int .i64 t, .int .i64 (-1)] w fun e w' => e = .returned (.bool true) ∧ w = w' := by
  go_enter Try.func14, Try.ntmps14
  go_wp2
  go_ret
  exact ⟨rfl, rfl⟩

theorem br_mid (b off n cap m : Nat) (t x y : Int) (w : World) (hn : m + 1 < n) (hlen : n ≤ 1048576) (hc : w.cell? ⟨b, off + m, none⟩ = some (.int .i64 x)) (hx : x ≤ t) (hc' : w.cell? ⟨b, off + (m + 1), none⟩ = some (.int .i64 y)) (hy : t < y) :
    Calls Try.prog 14 #[.slice (some ⟨b, off, none⟩) n cap, .int .i64 t, .int .i64 m] w fun e w' => e = .returned (.bool true) ∧ w = w' := by
  go_enter Try.func14, Try.ntmps14
  go_wp2
  go_ret
  exact ⟨rfl, rfl⟩

theorem br_last (b off n cap m : Nat) (t x : Int) (w : World) (hn : m + 1 = n) (hlen : n ≤ 1048576) (hc : w.cell? ⟨b, off + m, none⟩ = some (.int .i64 x)) (hx : x ≤ t) :
    Calls Try.prog 14 #[.slice (some ⟨b, off, none⟩) n cap, .int .i64 t, .int .i64 m] w fun e w' => e = .returned (.bool true) ∧ w = w' := by
  subst hn
  go_enter Try.func14, Try.ntmps14
  go_wp2
  go_ret
  exact ⟨rfl, rfl⟩

/-- stepBrackets at the number of elements at or before t, less one: true. -/
theorem brackets (a : Option Addr) (cap : Nat) (xs : List Int) (t : Int) (w : World) (hlen : xs.length ≤ 1048576) (hr : RowAt w a xs) (hs : nondec xs = true) :
    Calls Try.prog 14 #[.slice a xs.length cap, .int .i64 t, .int .i64 (((xs.countP (fun x => decide (x ≤ t)) : Nat) : Int) - 1)] w fun e w' => e = .returned (.bool true) ∧ w = w' := by
  obtain ⟨hR, h1, h2⟩ := countP_nondec xs t hs
  generalize xs.countP (fun x => decide (x ≤ t)) = R at hR h1 h2 ⊢
  rcases R with _ | m
  · rw [show ((0 : Nat) : Int) - 1 = -1 by omega]
    rcases Nat.eq_zero_or_pos xs.length with h0 | hp
    · rw [h0]; exact br_none a cap t w
    · obtain ⟨b, off, rfl, _, hc⟩ := hr.at rfl hp
      exact br_first b off _ cap t _ w hp hlen hc (h2 0 (Nat.le_refl _) hp)
  · rw [show ((m + 1 : Nat) : Int) - 1 = (m : Int) by omega]
    obtain ⟨b, off, rfl, _, hc⟩ := hr.at rfl (show m < xs.length by omega)
    by_cases hl : m + 1 < xs.length
    · obtain ⟨b', off', hx, _, hc'⟩ := hr.at rfl hl
      cases hx
      exact br_mid b off _ cap m t _ _ w hl hlen hc (h1 m (by omega)) hc' (h2 (m + 1) (Nat.le_refl _) hl)
    · exact br_last b off _ cap m t _ w (by omega) hlen hc (h1 m (by omega))

set_option maxHeartbeats 800000 in
theorem law4_main (a0 a1 : Option Addr) (c0 c1 : Nat) (xs : List Int) (fs : List Nat) (t1 t2 lo hi : Int) (w : World) (hr0 : RowAt w a0 xs) (h0 : a0 = none → c0 = 0) (hr1 : RowAtF w a1 fs) (h1 : a1 = none → c1 = 0)
    (hlen : xs.length ≤ 65536) (hff : fs.length = xs.length) (hnd : nondec xs = true) (hlh : (t2 < t1 ∧ lo = t2 ∧ hi = t1) ∨ (t1 ≤ t2 ∧ lo = t1 ∧ hi = t2)) :
    Calls Try.prog 4 #[.slice a0 xs.length c0, .slice a1 fs.length c1, .int .i64 t1, .int .i64 t2] w fun e w' => e = .returned (.bool true) ∧ Below w.heap.size w w' := by
  have K0 := hide (bytes13 a0 a1 xs.length c0 fs.length c1 t1 t2 w)
  have K1 := hide (nondec_any a0 c0 xs w (by omega) hr0)
  rw [decide_eq_true (show xs.length + fs.length ≤ 1048576 by omega)] at K0
  rw [hnd] at K1
  have K2 := hide (fun q => cloneI64_any a0 c0 xs (w.drewN q) (by omega) (hr0.later rfl (below_drewN (Below.refl _ _) q)) h0)
  have K3 := hide (fun w1 hw => cloneF64_any a1 c1 fs w1 (by omega) (hr1.later (w' := w1) rfl hw) h1)
  have K4 := hide (fun a c a1 c1 w1 hr h0 => newSeries a a1 c fs.length c1 xs w1 (by omega) hr h0)
  have K5 := hide (fun S c a w1 hS hrow => stepAt12 S c a xs lo w1 (by omega) hS hrow hnd)
  have K6 := hide (fun S c a w1 hS hrow => stepAt12 S c a xs hi w1 (by omega) hS hrow hnd)
  have K7 := hide (fun a c w1 hr => brackets a c xs lo w1 (by omega) hr hnd)
  have K8 := hide (fun a c w1 hr => brackets a c xs hi w1 (by omega) hr hnd)
  have hle : xs.countP (fun x => decide (x ≤ lo)) ≤ xs.countP (fun x => decide (x ≤ hi)) := List.countP_mono_left (fun x _ h => by simp only [decide_eq_true_eq] at h ⊢; omega)
  have hub : xs.countP (fun x => decide (x ≤ hi)) ≤ xs.length := List.countP_le_length
  clear hr0 hr1 h0 h1 hnd
  rw [hff] at K0 K3 K4 ⊢
  clear hff
  obtain ⟨n, hn⟩ : ∃ n, xs.length = n := ⟨_, rfl⟩
  have HN := hide hn
  rw [hn] at K0 K1 K2 K3 K4 K5 K6 K7 K8 hlen hub ⊢
  clear hn
  generalize xs.countP (fun x => decide (x ≤ lo)) = R1 at K5 K7 hle
  generalize xs.countP (fun x => decide (x ≤ hi)) = R2 at K6 K8 hle hub
  rcases hlh with ⟨hlt, rfl, rfl⟩ | ⟨hlt, rfl, rfl⟩
  all_goals
    go_enter Try.func4, Try.ntmps4
    go_wp2_with fail
    refine K0.out.mono ?_
    rintro e w' ⟨rfl, rfl⟩
    go_wp2_with fail
    refine K1.out.mono ?_
    rintro e w1 ⟨rfl, q, rfl⟩
    go_wp2_with fail
    refine (K2.out q).mono ?_
    rintro e w1 ⟨a2, c2, rfl, hrow, h0, hb1⟩
    replace hb1 : Below w.heap.size w w1 := (below_drewN (Below.refl _ w) q).trans hb1
    have HROW := hide hrow
    have H0 := hide h0
    clear hrow h0
    go_wp2_with fail
    refine (K3.out w1 hb1).mono ?_
    rintro e w2 ⟨a3, c3, rfl, hrow3, h3, hb2⟩
    replace HROW := hide (HROW.out.later rfl hb2)
    replace hb2 := hb1.trans (hb2.mono hb1.size)
    clear hb1 hrow3 h3
    go_wp2_with fail
    refine (K4.out a2 c2 a3 c3 w2 HROW.out H0.out).mono ?_
    rintro e w3 ⟨S, a4, c4, rfl, hS, hrow4, hb3⟩
    replace HROW := hide (HROW.out.later rfl hb3)
    replace hb3 := hb2.trans (hb3.mono hb2.size)
    clear hb2
    have HS := hide hS
    have HROW4 := hide hrow4
    clear hS hrow4
    go_wp2_with fail
    refine (K5.out S c4 a4 w3 HS.out HROW4.out).mono ?_
    rintro e w4 ⟨rfl, hb4⟩
    replace HROW := hide (HROW.out.later rfl hb4)
    replace HROW4 := hide (HROW4.out.later rfl hb4)
    replace HS := hide ((hb4.cell (block_lt HS.out)).trans HS.out)
    replace hb4 := hb3.trans (hb4.mono hb3.size)
    clear hb3
    go_wp2_with fail
    refine (K6.out S c4 a4 w4 HS.out HROW4.out).mono ?_
    rintro e w5 ⟨rfl, hb5⟩
    replace HROW := hide (HROW.out.later rfl hb5)
    replace hb5 := hb4.trans (hb5.mono hb4.size)
    clear hb4
    go_wp2_with fail
    refine (K7.out a2 c2 w5 HROW.out).mono ?_
    rintro e w6 ⟨rfl, rfl⟩
    go_wp2_with fail
    refine (K8.out a2 c2 w5 HROW.out).mono ?_
    rintro e w6 ⟨rfl, rfl⟩
    go_wp2
    go_ret
    exact ⟨by first | rfl | (simp; done) | (simp; omega), hb5⟩

set_option maxHeartbeats 800000 in
/-- The ways that return at once. -/
theorem law4_out (a0 a1 : Option Addr) (c0 c1 n m : Nat) (t1 t2 : Int) (w : World) (nd : Bool) (hn : n ≤ 1048576 → Calls Try.prog 8 #[.slice a0 n c0] w fun e w' => e = .returned (.bool nd) ∧ ∃ q, w' = w.drewN q)
    (h : ¬ (n ≤ 65536 ∧ m = n ∧ nd = true)) :
    Calls Try.prog 4 #[.slice a0 n c0, .slice a1 m c1, .int .i64 t1, .int .i64 t2] w fun e w' => e = .returned (.bool true) ∧ Below w.heap.size w w' := by
  have HN := hide hn
  clear hn
  have K0 := hide (bytes13 a0 a1 n c0 m c1 t1 t2 w)
  by_cases hA : n + m ≤ 1048576
  · rw [decide_eq_true hA] at K0
    by_cases hB : (131072 : Int) < (n : Int)
    · clear h
      go_enter Try.func4, Try.ntmps4
      go_wp2_with fail
      refine K0.out.mono ?_
      rintro e w' ⟨rfl, rfl⟩
      go_wp2
      go_ret
      exact ⟨rfl, Below.refl _ _⟩
    by_cases hC : (131072 : Int) < (m : Int)
    · clear h
      go_enter Try.func4, Try.ntmps4
      go_wp2_with fail
      refine K0.out.mono ?_
      rintro e w' ⟨rfl, rfl⟩
      go_wp2
      go_ret
      exact ⟨rfl, Below.refl _ _⟩
    by_cases hD : (1048576 : Int) < 8 * (n : Int) + 8 * (m : Int)
    · clear h
      go_enter Try.func4, Try.ntmps4
      go_wp2_with fail
      refine K0.out.mono ?_
      rintro e w' ⟨rfl, rfl⟩
      go_wp2
      go_ret
      exact ⟨rfl, Below.refl _ _⟩
    by_cases hE : m = n
    · subst hE
      have hnd : nd = false := by
        cases nd with
        | false => rfl
        | true => exact absurd ⟨by omega, rfl, rfl⟩ h
      subst hnd
      clear h
      have K1 := hide (HN.out (by omega))
      clear HN
      go_enter Try.func4, Try.ntmps4
      go_wp2_with fail
      refine K0.out.mono ?_
      rintro e w' ⟨rfl, rfl⟩
      go_wp2_with fail
      refine K1.out.mono ?_
      rintro e w1 ⟨rfl, q, rfl⟩
      go_wp2
      go_ret
      exact ⟨rfl, below_drewN (Below.refl _ _) q⟩
    · have hE' : ((m : Int) != (n : Int)) = true := by rw [bne_iff_ne]; omega
      clear h
      go_enter Try.func4, Try.ntmps4
      go_wp2_with fail
      refine K0.out.mono ?_
      rintro e w' ⟨rfl, rfl⟩
      go_wp2
      go_ret
      exact ⟨rfl, Below.refl _ _⟩
  · rw [decide_eq_false hA] at K0
    clear h
    go_enter Try.func4, Try.ntmps4
    go_wp2_with fail
    refine K0.out.mono ?_
    rintro e w' ⟨rfl, rfl⟩
    go_wp2
    go_ret
    exact ⟨rfl, Below.refl _ _⟩

theorem law4 (a0 a1 : Option Addr) (c0 c1 : Nat) (xs : List Int) (fs : List Nat) (t1 t2 : Int) (w : World) (hr0 : RowAt w a0 xs) (h0 : a0 = none → c0 = 0) (hr1 : RowAtF w a1 fs) (h1 : a1 = none → c1 = 0) :
    Calls Try.prog 4 #[.slice a0 xs.length c0, .slice a1 fs.length c1, .int .i64 t1, .int .i64 t2] w fun e w' => e = .returned (.bool true) ∧ Below w.heap.size w w' := by
  by_cases h : xs.length ≤ 65536 ∧ fs.length = xs.length ∧ nondec xs = true
  · by_cases hlt : t2 < t1
    · exact law4_main a0 a1 c0 c1 xs fs t1 t2 t2 t1 w hr0 h0 hr1 h1 h.1 h.2.1 h.2.2 (.inl ⟨hlt, rfl, rfl⟩)
    · exact law4_main a0 a1 c0 c1 xs fs t1 t2 t1 t2 w hr0 h0 hr1 h1 h.1 h.2.1 h.2.2 (.inr ⟨by omega, rfl, rfl⟩)
  · exact law4_out a0 a1 c0 c1 xs.length fs.length t1 t2 w (nondec xs) (fun hl => nondec_any a0 c0 xs w hl hr0) h
end Go.Proofs.Qxb6606004a
