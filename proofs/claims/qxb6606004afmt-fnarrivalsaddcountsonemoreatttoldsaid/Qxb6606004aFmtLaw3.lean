import Derived.Test.Qxb6606004aFmtOne
namespace Go.Proofs.Qxb6606004aFmt
open Go.RowKit

theorem cloneI64_own (a : Option Addr) (cap : Nat) (xs : List Int) (w : World) (hlen : xs.length ≤ 1048576) (hc : RowAt w a xs) (h0 : a = none → cap = 0) :
    Calls Tryf.prog 8 #[.slice a xs.length cap] w fun e w' => ∃ a' c', e = .returned (.slice a' xs.length c') ∧ w'.ownsRow w.heap.size 2 1 (.slice a' xs.length c') xs.length (xs.map (Value.int .i64)) ∧ Below w.heap.size w w' := by
  rcases a with _ | x
  · obtain rfl : xs = [] := by rcases hc with h | ⟨b, off, h, _⟩; exact h; cases h
    rw [h0 rfl]
    refine (cloneI64_nil w).mono ?_
    rintro e w' ⟨rfl, rfl⟩
    exact ⟨none, 0, rfl, World.ownsRow_nil _ _ _ _, Below.refl _ _⟩
  · refine (cloneI64_some x cap xs w hlen hc).mono ?_
    rintro e w' ⟨rfl, hown, hb⟩
    exact ⟨_, _, rfl, hown, hb⟩
theorem cloneInt_own (a : Option Addr) (cap : Nat) (xs : List Int) (w : World) (hlen : xs.length ≤ 1048576) (hc : RowAt w a xs) (h0 : a = none → cap = 0) :
    Calls Tryf.prog 9 #[.slice a xs.length cap] w fun e w' => ∃ a' c', e = .returned (.slice a' xs.length c') ∧ w'.ownsRow w.heap.size 3 1 (.slice a' xs.length c') xs.length (xs.map (Value.int .i64)) ∧ Below w.heap.size w w' := by
  rcases a with _ | x
  · obtain rfl : xs = [] := by rcases hc with h | ⟨b, off, h, _⟩; exact h; cases h
    rw [h0 rfl]
    refine (cloneInt_nil w).mono ?_
    rintro e w' ⟨rfl, rfl⟩
    exact ⟨none, 0, rfl, World.ownsRow_nil _ _ _ _, Below.refl _ _⟩
  · refine (cloneInt_some x cap xs w hlen hc).mono ?_
    rintro e w' ⟨rfl, hown, hb⟩
    exact ⟨_, _, rfl, hown, hb⟩

theorem ownsRow_h0 {w : World} {B e n c : Nat} {a : Option Addr} {xs : List Value} (h : w.ownsRow B e 1 (.slice a n c) n xs) : a = none → c = 0 := by
  obtain ⟨_, _, hv, h0, _⟩ := ownsRow_form h
  cases hv
  exact h0

/-- Add at the last recorded time, on the record. -/
theorem same_add {B S n c7 c3 m : Nat} {a7 a3 : Option Addr} {xs us : List Int} {f t : Int} {w : World} (hA : ArrAt B S (.slice a7 n c7) (.slice a3 n c3) xs us f w) (hx : xs.length = m + 1) (hu : us.length = m + 1) (hn : n = m + 1) (ht : xs.getD m 0 = t)
    (hu0 : 0 ≤ us.getD m 0) (hu1 : us.getD m 0 < 9223372036854775807) (hlen : n ≤ 1048576) :
    Calls Tryf.prog 12 #[.pointer (some ⟨S, 0, none⟩), .int .i64 t] w fun e w' => e = .returned (.tuple #[]) ∧ ArrAt B S (.slice a7 n c7) (.slice a3 n c3) xs (us.set m (us.getD m 0 + 1)) f w' ∧ Touch S (.slice a7 n c7) (.slice a3 n c3) w w' := by
  subst hn
  have hr0 := hA.r0
  have hr1 := hA.r1
  rw [hx] at hr0
  rw [hu] at hr1
  obtain ⟨g0, rfl, k0⟩ := ownsRow_some hr0
  obtain ⟨g1, rfl, k1⟩ := ownsRow_some hr1
  have t0 := (k0 m (Nat.lt_succ_self _)).1
  have t1 := (k1 m (Nat.lt_succ_self _)).1
  rw [getD_some _ _ _ hx (Nat.lt_succ_self _), ht] at t0
  rw [getD_some _ _ _ hu (Nat.lt_succ_self _)] at t1
  refine (add12_same S g0 g1 m c7 c3 t (us.getD m 0) w hlen hA.c0 hA.c1 t0 t1 (k1 m (Nat.lt_succ_self _)).2 hu0 hu1).mono ?_
  rintro e w' ⟨rfl, rfl⟩
  exact ⟨rfl, hA.put hu⟩

set_option maxRecDepth 100000 in
set_option maxHeartbeats 1600000 in
/-- A: the arrival comes at the last recorded time. -/
theorem law3_same (a0 a1 : Option Addr) (c0 c1 m : Nat) (xs us : List Int) (f t : Int) (w : World) (hr0 : RowAt w a0 xs) (h0 : a0 = none → c0 = 0) (hr1 : RowAt w a1 us) (h1 : a1 = none → c1 = 0)
    (hlen : 8 * xs.length + 8 * us.length ≤ 1048576) (hwf : wfArr xs us f = true) (hxm : xs.length = m + 1) (ht : xs.getD m 0 = t) :
    Calls Tryf.prog 3 #[.slice a0 xs.length c0, .slice a1 us.length c1, .int .i64 f, .int .i64 t] w fun e w' => e = .returned (.bool true) ∧ Below w.heap.size w w' := by
  have hff := (wfArr_true hwf).1
  obtain ⟨hbd, hp0, hp1⟩ := wf_bounds hwf
  have K0 := hide (bytes6 a0 a1 xs.length c0 us.length c1 f t w)
  have K1 := hide (wf_any a0 a1 c0 c1 xs us f w (by omega) (by omega) hr0 hr1)
  rw [decide_eq_true (show xs.length + us.length ≤ 1048576 by omega)] at K0
  rw [hwf] at K1
  have K2 := hide (fun (a : Option Addr) (c : Nat) (w1 : World) hr h0 => cloneI64_own a c xs w1 (by omega) hr h0)
  have K3 := hide (fun (a : Option Addr) (c : Nat) (w1 : World) hr h0 => cloneInt_own a c us w1 (by omega) hr h0)
  have K4 := hide (fun (a : Option Addr) (c : Nat) (w1 : World) hr => countsOf_any a c us f w1 (by omega) hr hbd)
  have K5 := hide (fun (a : Option Addr) (c : Nat) (w1 : World) hr h0 => cloneInt_own a c (counts f us) w1 (by rw [counts_length]; omega) hr h0)
  have K6 := hide (fun (B : Nat) (a a1 : Option Addr) (c c1 : Nat) (w1 : World) hr h0 hr1 hB => newArr B a a1 c us.length c1 f xs us w1 (by omega) hr h0 rfl hr1 hB)
  have hum : us.length = m + 1 := by omega
  have hu0 : 0 ≤ us.getD m 0 := by have := hbd m (by omega); omega
  have hu1 : us.getD m 0 < 9223372036854775807 := by rw [hum, prevAt_succ] at hp1; exact hp1
  have HCL := hide (counts_length f us)
  have HCS := hide (counts_same f us m hum)
  have K7 := hide (fun (a : Option Addr) (c : Nat) (w1 : World) hr => countsOf_any a c (us.set m (us.getD m 0 + 1)) f w1 (by rw [List.length_set]; omega) hr (bounds_same hum hbd hu1))
  have K8 := hide (fun (a b : Option Addr) (c d : Nat) (w1 : World) h1 h2 => equalI64_same a b c d xs w1 (by omega) h1 h2)
  have K9 := hide (fun (a b : Option Addr) (c d : Nat) (w1 : World) h1 h2 => equalInt_same a b c d ((counts f us).set m ((counts f us).getD m 0 + 1)) w1 (by rw [List.length_set, counts_length]; omega) h1 h2)
  have hcm := counts_at f us m (by omega)
  have hbm := hbd m (by omega)
  have HLAST := hide (fun (w1 : World) (a : Option Addr) (h : RowAt w1 a xs) => h.at hxm (Nat.lt_succ_self m))
  rw [List.length_set] at K7
  rw [List.length_set, HCL.out, hum] at K9
  rw [HCL.out] at K5
  rw [hum] at K0 K1 K3 K4 K5 K6 K7 HCL ⊢
  rw [hxm] at K0 K1 K2 K6 K8 hlen ⊢
  have HTT := hide ht
  rw [ht] at HLAST
  have HR0 := hide hr0
  have HR1 := hide hr1
  have HZ := hide (⟨h0, h1⟩ : _ ∧ _)
  have HX := hide (⟨hxm, hum⟩ : _ ∧ _)
  obtain ⟨b, off, rfl, hbl, hsrc⟩ := HLAST.out w a0 hr0
  clear hr0 hr1 h0 h1 hwf hbd hp0 hp1 hff ht hxm
  have HUM := hide hum
  have HCM := hide (⟨hcm, hbm, hu0, hu1⟩ : _ ∧ _ ∧ _ ∧ _)
  obtain ⟨n, hn⟩ : ∃ n, n = m + 1 := ⟨_, rfl⟩
  have HNM := hide hn
  have hm : m = n - 1 := by omega
  rw [hm] at hsrc
  rw [← hn] at K0 K1 K2 K3 K4 K5 K6 K7 K8 K9 hlen ⊢
  have hn0 : 0 < (n : Int) := by omega
  have hlen2 : 8 * n + 8 * n ≤ 1048576 := by omega
  clear hum hcm hbm hu0 hu1 hn hm hlen
  have htt : (t == t) = true := by simp
  have htl : decide (t < t) = false := by simp
  go_enter Tryf.func3, Tryf.ntmps3
  go_wp2_with fail
  refine K0.out.mono ?_
  rintro e w' ⟨rfl, rfl⟩
  go_wp2_with fail
  refine K1.out.mono ?_
  rintro e w1 ⟨rfl, q, rfl⟩
  go_wp2_with fail
  refine (K2.out _ c0 (w.drewN q) (HR0.out.later rfl (below_drewN (Below.refl _ _) q)) HZ.out.1).mono ?_
  rintro e w1 ⟨a2, c2, rfl, hT1, hb1⟩
  replace hb1 : Below w.heap.size w w1 := (below_drewN (Below.refl _ w) q).trans hb1
  have HB := hide hb1
  have HB0 := hide hb1
  have HT := hide (⟨ownsRow_row HX.out.1 (by rw [← HNM.out]; exact hT1), ownsRow_h0 hT1⟩ : RowAt w1 a2 xs ∧ (a2 = none → c2 = 0))
  clear hb1 hT1
  go_wp2_with fail
  refine (K3.out a1 c1 w1 (HR1.out.later rfl HB.out) HZ.out.2).mono ?_
  rintro e w2 ⟨a3, c3, rfl, hU2, hb2⟩
  have HU := hide hU2
  replace HT := hide (⟨HT.out.1.later rfl hb2, HT.out.2⟩ : RowAt w2 a2 xs ∧ (a2 = none → c2 = 0))
  have HB2 := hide hb2
  replace HB := hide (HB.out.trans (hb2.mono HB.out.size))
  clear hU2 hb2
  go_wp2_with fail
  refine (K4.out a3 c3 w2 (ownsRow_row HX.out.2 (by rw [← HNM.out]; exact HU.out))).mono ?_
  rintro e w3 ⟨rfl, hO3, hb3⟩
  have HO := hide hO3
  replace HT := hide (⟨HT.out.1.later rfl hb3, HT.out.2⟩ : RowAt w3 a2 xs ∧ (a2 = none → c2 = 0))
  have HU3 := hide (ownsRow_later HU.out hb3)
  have hg23 : Hid (∀ g, (Value.slice a3 n c3).ownBlock = some g → g < w2.heap.size) := fun g hg => (ownsRow_lt HU.out hg).1
  have hs23 := hb3.size
  replace HB := hide (HB.out.trans (hb3.mono HB.out.size))
  obtain ⟨b2, off2, hx2, hbl2, hsrc2⟩ := HLAST.out w3 a2 HT.out.1
  cases hx2
  rw [show m = n - 1 by have := HNM.out; omega] at hsrc2
  clear hO3 hb3 HU
  go_wp2_with fail
  refine (K2.out _ c2 w3 HT.out.1 HT.out.2).mono ?_
  rintro e w4 ⟨a4, c4, rfl, hT4, hb4⟩
  have HWT := hide hT4
  replace HT := hide (⟨HT.out.1.later rfl hb4, HT.out.2⟩ : RowAt w4 (some ⟨b2, off2, none⟩) xs ∧ (some (⟨b2, off2, none⟩ : Addr) = none → c2 = 0))
  replace HU3 := hide (ownsRow_later HU3.out hb4)
  replace HO := hide (RowAt.later (ownsRow_row HCL.out (by rw [← HNM.out]; exact HO.out)) rfl hb4)
  have hs34 := hb4.size
  replace HB := hide (HB.out.trans (hb4.mono HB.out.size))
  clear hT4 hb4
  go_wp2_with fail
  refine (K5.out _ n w4 HO.out (fun h => by cases h)).mono ?_
  rintro e w5 ⟨a5, c5, rfl, hC5, hb5⟩
  obtain ⟨g5, hg5, hc5⟩ := ownsRow_some (m := m) (by rw [← HNM.out]; exact hC5)
  subst hg5
  have hg5b : w4.heap.size ≤ g5 := (ownsRow_lt hC5 rfl).2.1
  have hcv := hc5 m (Nat.lt_succ_self m)
  rw [getD_some _ m (m + 1) HCL.out (Nat.lt_succ_self m)] at hcv
  obtain ⟨hcv, hcz⟩ := hcv
  have HC6 := hide (hC5.stored m (.int .i64 ((counts f us).getD m 0 + 1))).1
  have hcb : 0 ≤ (counts f us).getD m 0 ∧ (counts f us).getD m 0 < 9223372036854775807 := by
    obtain ⟨e1, e2, e3, e4⟩ := HCM.out
    rw [e1]
    omega
  have HCV := hide (rfl : (counts f us).getD m 0 = (counts f us).getD m 0)
  rw [show m = n - 1 by have := HNM.out; omega] at hcv hcz
  obtain ⟨cv, hcve⟩ : ∃ cv, (counts f us).getD m 0 = cv := ⟨_, rfl⟩
  have HCVE := hide hcve
  rw [show n - 1 = m by have := HNM.out; omega, hcve] at hcv
  rw [hcve] at HC6 hcb
  rw [show n - 1 = m by have := HNM.out; omega] at hcz
  rw [show m = n - 1 by have := HNM.out; omega] at hcv hcz
  obtain ⟨hcb0, hcb1⟩ := hcb
  have HB5 := hide hb5
  clear hC5 hc5 hb5 hcve HCV
  go_wp2_with fail
  obtain ⟨w6, hw6⟩ : ∃ w6, w6 = w5.setCell ⟨g5, n - 1, none⟩ (.int .i64 (cv + 1)) := ⟨_, rfl⟩
  have hb6 : Below w4.heap.size w4 w6 := by rw [hw6]; exact HB5.out.setCell hg5b _
  replace HC6 : Hid (w6.ownsRow w4.heap.size 3 1 (.slice (some ⟨g5, 0, none⟩) n c5) n (((counts f us).set m (cv + 1)).map (Value.int .i64))) := by
    show w6.ownsRow _ _ _ _ _ _
    rw [hw6, show n - 1 = m by have := HNM.out; omega, List.map_set]
    exact HC6.out
  rw [← hw6]
  replace HT := hide (HT.out.1.later rfl hb6)
  replace HU3 := hide (ownsRow_later HU3.out hb6)
  replace HWT := hide (ownsRow_later HWT.out hb6)
  have hs46 := hb6.size
  have hlt4 : Hid (∀ g, (Value.slice a4 n c4).ownBlock = some g → g < w6.heap.size ∧ w3.heap.size ≤ g) := fun g hg => ⟨(ownsRow_lt HWT.out hg).1, (ownsRow_lt HWT.out hg).2.1⟩
  have hlt5 : Hid (g5 < w6.heap.size) := (ownsRow_lt HC6.out rfl).1
  replace HB := hide (HB.out.trans (hb6.mono HB.out.size))
  have hs12 := HB2.out.size
  clear hw6 hb6 hcv hcz HB5 hg5b
  refine (K6.out w1.heap.size _ a3 c2 c3 w6 HT.out (fun h => by cases h) HU3.out (by omega)).mono ?_
  rintro e w7 ⟨S, a7, c7, rfl, hA7, hb7, hS7, hg7⟩
  have KA := hide (same_add hA7 HX.out.1 HUM.out HNM.out HTT.out HCM.out.2.2.1 HCM.out.2.2.2 (by omega))
  replace HWT := hide (ownsRow_later HWT.out hb7)
  replace HC6 := hide (ownsRow_later HC6.out hb7)
  replace HB := hide (HB.out.trans (hb7.mono HB.out.size))
  have HS7 := hide (⟨hS7, hg7⟩ : _ ∧ _)
  have hs67 := hb7.size
  have HAB := hide (fun w' => Touch.below (w' := w') (hA := hA7))
  clear hA7 hb7 hS7 hg7
  go_wp2_with fail
  refine KA.out.mono ?_
  rintro e w8 ⟨rfl, hA8, hT8⟩
  replace HWT := hide (hT8.keeps HWT.out (fun g hg => ⟨by have h1 := (hlt4.out g hg).1; have h2 := HS7.out.1; omega, fun e => by have h1 := HS7.out.2 g e; have h2 := (hlt4.out g hg).1; omega, fun e => by have h1 := hg23.out g e; have h2 := (hlt4.out g hg).2; omega⟩))
  replace HC6 := hide (hT8.keeps HC6.out (fun g hg => by
    have hgg : g = g5 := by simpa [Value.ownBlock] using hg.symm
    subst hgg
    have h1 := hlt5.out
    have h2 := HS7.out.1
    have h4 : w4.heap.size ≤ g := (ownsRow_lt HC6.out rfl).2.1
    exact ⟨by omega, fun e => by have h5 := HS7.out.2 _ e; omega, fun e => by have h5 := hg23.out _ e; omega⟩))
  have hB1 : w.heap.size ≤ w1.heap.size := by have := HB0.out.size; exact this
  replace HB := hide (HB.out.trans ((HAB.out w8 hT8).mono hB1))
  have KS := hide (state_any _ S _ _ n n _ _ _ _ _ _ hA8 (by rw [HX.out.1, HNM.out]) (by rw [List.length_set, HUM.out, HNM.out]) (by omega) (by omega))
  clear hA8 hT8
  go_wp2_with fail
  refine KS.out.mono ?_
  rintro e w9 ⟨b0, d0, b1, d1, rfl, hg0, hg1, hb9⟩
  replace HWT := hide (ownsRow_later HWT.out hb9)
  replace HC6 := hide (ownsRow_later HC6.out hb9)
  replace HB := hide (HB.out.trans (hb9.mono HB.out.size))
  have HG0 := hide hg0
  have HG1 := hide hg1
  clear hg0 hg1 hb9
  have hfq : (f != f) = false := by simp
  have hnq : ((n : Int) != (n : Int)) = false := by simp
  go_wp2_with fail
  refine (K7.out b1 d1 w9 HG1.out).mono ?_
  rintro e w10 ⟨rfl, hC10, hb10⟩
  rw [HCS.out] at hC10
  have HG3 := hide hC10
  replace HWT := hide (ownsRow_later HWT.out hb10)
  replace HC6 := hide (ownsRow_later HC6.out hb10)
  replace HB := hide (HB.out.trans (hb10.mono HB.out.size))
  replace HG0 := hide (HG0.out.later rfl hb10)
  clear hC10 hb10
  go_wp2_with fail
  refine (K8.out b0 a4 d0 c4 w10 HG0.out (ownsRow_row (by rw [HX.out.1, HNM.out]) HWT.out)).mono ?_
  rintro e w11 ⟨rfl, q11, rfl⟩
  go_wp2_with fail
  have hcl : Hid (((counts f us).set m ((counts f us).getD m 0 + 1)).length = n) := by show _ = _; rw [List.length_set, HCL.out, HNM.out]
  have hg3 := ownsRow_row hcl.out HG3.out
  have hg5 := ownsRow_row hcl.out (by rw [HCVE.out]; exact HC6.out)
  have HG35 := hide (⟨hg3.later rfl (below_drewN (Below.refl _ _) q11), hg5.later rfl (below_drewN (Below.refl _ _) q11)⟩ : _ ∧ _)
  clear hg3 hg5
  refine (K9.out _ _ n c5 (w10.drewN q11) HG35.out.1 HG35.out.2).mono ?_
  rintro e w12 ⟨rfl, q12, rfl⟩
  go_wp2
  go_ret
  exact ⟨rfl, below_drewN HB.out _⟩
end Go.Proofs.Qxb6606004aFmt
