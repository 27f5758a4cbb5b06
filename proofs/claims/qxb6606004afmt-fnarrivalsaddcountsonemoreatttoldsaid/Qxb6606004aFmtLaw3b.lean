import Derived.Test.Qxb6606004aFmtLaw3
namespace Go.Proofs.Qxb6606004aFmt
open Go.RowKit

theorem below_app {B n e : Nat} {v : Value} {xs : List Value} {w0 w w' : World} {o : Obj} (hb : Below B w0 w) (hB : B ≤ w.heap.size) (h : w.ownsRow B e 1 v n xs) (hg : (w.alloc o).grownBy w' v.ownBlock) : Below B w0 w' :=
  (hb.alloc hB o).grown hg (by simp; omega) (fun k e => (ownsRow_lt h e).2.1)

theorem nondec_snoc {xs : List Int} {t : Int} (hs : strict xs = true) (h : ∀ i, i < xs.length → xs.getD i 0 < t) : nondec (xs ++ [t]) = true := by
  simp only [nondec, nondecTo, List.all_eq_true, List.mem_range, decide_eq_true_eq, List.length_append, List.length_cons, List.length_nil]
  intro i hi
  have hi' : i < xs.length := by omega
  rw [getD_append_left _ _ _ hi']
  by_cases e : i + 1 < xs.length
  · rw [getD_append_left _ _ _ e]
    exact Int.le_of_lt (strict_lt hs (Nat.lt_succ_self i) e)
  · have : i + 1 = xs.length := by omega
    have hl : (xs ++ [t]).getD (i + 1) 0 = t := by
      rw [this, List.getD_eq_getElem?_getD, List.getElem?_append_right (Nat.le_refl _)]
      simp
    rw [hl]
    exact Int.le_of_lt (h i hi')

set_option maxRecDepth 100000 in
set_option maxHeartbeats 1600000 in
/-- B: the arrival comes at a time of its own. -/
theorem law3_new (a0 a1 : Option Addr) (c0 c1 : Nat) (xs us : List Int) (f t : Int) (w : World) (hr0 : RowAt w a0 xs) (h0 : a0 = none → c0 = 0) (hr1 : RowAt w a1 us) (h1 : a1 = none → c1 = 0)
    (hlen : 8 * xs.length + 8 * us.length ≤ 1048576) (hwf : wfArr xs us f = true) (hlt : ∀ i, i < xs.length → xs.getD i 0 < t) :
    Calls Tryf.prog 3 #[.slice a0 xs.length c0, .slice a1 us.length c1, .int .i64 f, .int .i64 t] w fun e w' => e = .returned (.bool true) ∧ Below w.heap.size w w' := by
  obtain ⟨i2, hi2, hz20, hz21, hz22⟩ := info_parts Tryf.info2
  obtain ⟨i3, hi3, hz30, hz31, hz32⟩ := info_parts Tryf.info3
  have hff := (wfArr_true hwf).1
  obtain ⟨hbd, hp0, hp1⟩ := wf_bounds hwf
  have K0 := hide (bytes6 a0 a1 xs.length c0 us.length c1 f t w)
  have K1 := hide (wf_any a0 a1 c0 c1 xs us f w (by omega) (by omega) hr0 hr1)
  rw [decide_eq_true (show xs.length + us.length ≤ 1048576 by omega)] at K0
  rw [hwf] at K1
  have K2 := hide (fun (a : Option Addr) (c : Nat) (w1 : World) hr h0 => cloneI64_own a c xs w1 (by omega) hr h0)
  have K3 := hide (fun (a : Option Addr) (c : Nat) (w1 : World) hr h0 => cloneInt_own a c us w1 (by omega) hr h0)
  have K4 := hide (fun (a : Option Addr) (c : Nat) (w1 : World) hr => countsOf_any a c us f w1 (by omega) hr hbd)
  have K5 := hide (fun (a : Option Addr) (c : Nat) (w1 : World) hr h0 => cloneInt_own a c (counts f us) w1 (by rw [counts_length]; omega) hr h0)
  have K6 := hide (fun (B : Nat) (a a1 : Option Addr) (c c1 : Nat) (w1 : World) hr h0 hr1 hB => newArr B a a1 c us.length c1 f xs us w1 (by omega) hr h0 rfl hr1 hB)
  have hnd := nondec_snoc (wfArr_true hwf).2.2.1 hlt
  have HCL := hide (counts_length f us)
  have HCN := hide (counts_new f us)
  have K7 := hide (fun (a : Option Addr) (c : Nat) (w1 : World) hr => countsOf_any a c (us ++ [prevAt f us us.length + 1]) f w1 (by simp; omega) hr (bounds_new hbd hp0 hp1))
  have K8 := hide (fun (a b : Option Addr) (c d : Nat) (w1 : World) h1 h2 => equalI64_same a b c d (xs ++ [t]) w1 (by simp; omega) h1 h2)
  have K9 := hide (fun (a b : Option Addr) (c d : Nat) (w1 : World) h1 h2 => equalInt_same a b c d (counts f us ++ [1]) w1 (by simp [counts_length]; omega) h1 h2)
  have KA := hide (fun (B S c7 c3 : Nat) (a7 a3 : Option Addr) (w1 : World) hA => add12_new B S c7 c3 us.length a7 a3 xs us f t w1 hA hff.symm rfl (by omega) hnd (fun i hi => hlt i (by omega)) hp0 hp1)
  have HLAST : Hid ((us.length : Int) ≤ 0 ∨ (0 < (us.length : Int) ∧ ∃ x, x < t ∧ ∀ (w1 : World) (a : Option Addr), RowAt w1 a xs → ∃ b off, a = some ⟨b, off, none⟩ ∧ b < w1.heap.size ∧ w1.cell? ⟨b, off + (us.length - 1), none⟩ = some (.int .i64 x))) := by
    rcases Nat.eq_zero_or_pos us.length with h | h
    · exact .inl (by omega)
    · exact .inr ⟨by omega, xs.getD (us.length - 1) 0, hlt _ (by omega), fun w1 a hr => hr.at rfl (by omega)⟩
  rw [List.length_append, List.length_cons, List.length_nil] at K7 K8 K9
  rw [counts_length] at K9 K5
  rw [← hff] at K0 K1 K2 K6 K8 hlen ⊢
  have HR0 := hide hr0
  have HR1 := hide hr1
  have HZ := hide (⟨h0, h1⟩ : _ ∧ _)
  have HX := hide (hff.symm : xs.length = us.length)
  clear hr0 hr1 h0 h1 hwf hbd hp0 hp1 hff hlt hnd
  obtain ⟨n, hn⟩ : ∃ n, us.length = n := ⟨_, rfl⟩
  have HN := hide hn
  rw [hn] at K0 K1 K2 K3 K4 K5 K6 K7 K8 K9 KA HCL HCN HX HLAST hlen ⊢
  clear hn
  rcases HLAST.out with hn0 | ⟨hn0, x, hxt, hcell⟩
  all_goals
    clear HLAST
    try (have HCELL := hide hcell; clear hcell; obtain ⟨b, off, rfl, hbl, hsrc⟩ := HCELL.out w a0 HR0.out; have htx : (t == x) = false := by { rw [beq_eq_false_iff_ne]; omega })
    go_enter Tryf.func3, Tryf.ntmps3
    go_wp2_with fail
    refine K0.out.mono ?_
    rintro e w' ⟨rfl, rfl⟩
    go_wp2_with fail
    refine K1.out.mono ?_
    rintro e w1 ⟨rfl, q, rfl⟩
    go_wp2_with fail
    refine (K2.out _ c0 (w.drewN q) (HR0.out.later rfl (below_drewN (Below.refl _ _) q)) HZ.out.1).mono ?_
    rintro e w1 ⟨a2, c2, rfl, hT1, hb1⟩
    replace hb1 : Below w.heap.size w w1 := (below_drewN (Below.refl _ w) q).trans hb1
    have HB := hide hb1
    have HB0 := hide hb1
    have HT := hide (⟨ownsRow_row HX.out hT1, ownsRow_h0 hT1⟩ : RowAt w1 a2 xs ∧ (a2 = none → c2 = 0))
    clear hb1 hT1
    go_wp2_with fail
    refine (K3.out a1 c1 w1 (HR1.out.later rfl HB.out) HZ.out.2).mono ?_
    rintro e w2 ⟨a3, c3, rfl, hU2, hb2⟩
    have HU := hide hU2
    replace HT := hide (⟨HT.out.1.later rfl hb2, HT.out.2⟩ : RowAt w2 a2 xs ∧ (a2 = none → c2 = 0))
    have hs12 := hb2.size
    replace HB := hide (HB.out.trans (hb2.mono HB.out.size))
    clear hU2 hb2
    go_wp2_with fail
    refine (K4.out a3 c3 w2 (ownsRow_row HN.out HU.out)).mono ?_
    rintro e w3 ⟨rfl, hO3, hb3⟩
    have HO := hide (ownsRow_row HCL.out hO3)
    replace HT := hide (⟨HT.out.1.later rfl hb3, HT.out.2⟩ : RowAt w3 a2 xs ∧ (a2 = none → c2 = 0))
    have HU3 := hide (ownsRow_later HU.out hb3)
    have hg23 : Hid (∀ g, (Value.slice a3 n c3).ownBlock = some g → g < w2.heap.size) := fun g hg => (ownsRow_lt HU.out hg).1
    have hs23 := hb3.size
    replace HB := hide (HB.out.trans (hb3.mono HB.out.size))
    clear hO3 hb3 HU
    have HT0 := hide HT.out.2
    replace HT := hide HT.out.1
    try (obtain ⟨b2, off2, hx2, hbl2, hsrc2⟩ := HCELL.out w3 a2 HT.out; cases hx2)
    go_wp2_with fail
    refine (K2.out _ c2 w3 HT.out HT0.out).mono ?_
    rintro e w4 ⟨a4, c4, rfl, hT4, hb4⟩
    have HWT := hide hT4
    have HB4 := hide hb4
    have hs34 := hb4.size
    clear hT4 hb4
    go_wp2_with (at_builtin; refine wpList_append_lies _ rfl _ _ 22 rfl w3.heap.size 2 i2 (.int .i64 0) 1 8 Tryf.underlying22 hi2 hz20 hz21 hz22 rfl (by omega) _ n _ (by rfl) (HWT.out.alloc _) ⟨w4.heap.size, 0, none⟩ 1 1 [.int .i64 t] (by rfl) (by rfl) (cell_one_new _ _ _) (by simp [Value.oneCell']) (by omega) (by unfold maxLen; omega) (by omega) (by simp; omega) (w4.heap.size + 1) (by simp) ?_)
    intro g4 d4 w5 hown4 hgrow4 _ _
    have hb5 := below_app HB4.out hs34 HWT.out hgrow4
    replace HWT := hide hown4
    replace HT := hide (HT.out.later rfl hb5)
    replace HU3 := hide (ownsRow_later HU3.out hb5)
    replace HO := hide (HO.out.later rfl hb5)
    have hs35 := hb5.size
    replace HB := hide (HB.out.trans (hb5.mono HB.out.size))
    have hg4 : Hid (w3.heap.size ≤ g4 ∧ g4 < w5.heap.size) := ⟨(ownsRow_lt HWT.out rfl).2.1, (ownsRow_lt HWT.out rfl).1⟩
    clear hown4 hgrow4 hb5 HB4
    go_wp2_with fail
    refine (K5.out _ n w5 HO.out (fun h => by cases h)).mono ?_
    rintro e w6 ⟨a5, c5, rfl, hC6, hb6⟩
    have HWC := hide hC6
    have HB6 := hide hb6
    have hs56 := hb6.size
    clear hC6 hb6
    go_wp2_with (at_builtin; refine wpList_append_lies _ rfl _ _ 23 rfl w5.heap.size 3 i3 (.int .i64 0) 1 8 Tryf.underlying23 hi3 hz30 hz31 hz32 rfl (by omega) _ n _ (by rfl) (HWC.out.alloc _) ⟨w6.heap.size, 0, none⟩ 1 1 [.int .i64 1] (by rfl) (by rfl) (cell_one_new _ _ _) (by simp [Value.oneCell']) (by omega) (by unfold maxLen; omega) (by omega) (by simp; omega) (w6.heap.size + 1) (by simp) ?_)
    intro g5 d5 w7 hown5 hgrow5 _ _
    have hb7 := below_app HB6.out hs56 HWC.out hgrow5
    replace HWC := hide hown5
    replace HT := hide (HT.out.later rfl hb7)
    replace HU3 := hide (ownsRow_later HU3.out hb7)
    replace HWT := hide (ownsRow_later HWT.out hb7)
    have hs57 := hb7.size
    replace HB := hide (HB.out.trans (hb7.mono HB.out.size))
    have hg5 : Hid (w5.heap.size ≤ g5 ∧ g5 < w7.heap.size) := ⟨(ownsRow_lt HWC.out rfl).2.1, (ownsRow_lt HWC.out rfl).1⟩
    clear hown5 hgrow5 hb7 HB6
    go_wp2_with fail
    refine (K6.out w1.heap.size _ a3 c2 c3 w7 HT.out HT0.out HU3.out (by omega)).mono ?_
    rintro e w8 ⟨S, a7, c7, rfl, hA8, hb8, hS8, hg8⟩
    replace HWT := hide (ownsRow_later HWT.out hb8)
    replace HWC := hide (ownsRow_later HWC.out hb8)
    replace HB := hide (HB.out.trans (hb8.mono HB.out.size))
    have HS8 := hide (⟨hS8, hg8⟩ : _ ∧ _)
    have KA2 := hide (KA.out _ S c7 c3 a7 a3 w8 hA8)
    have HAB := hide (fun w' => Touch.below (w' := w') (hA := hA8))
    clear hA8 hb8 hS8 hg8
    go_wp2_with fail
    refine KA2.out.mono ?_
    rintro e w9 ⟨rfl, a8, d8, a9, d9, hA9, hT9⟩
    replace HWT := hide (hT9.keeps HWT.out (fun g hg => by
      have hgg : g = g4 := by simpa [Value.ownBlock] using hg.symm
      subst hgg
      have h1 := hg4.out
      have h2 := HS8.out.1
      exact ⟨by omega, fun e => by have h5 := HS8.out.2 _ e; omega, fun e => by have h5 := hg23.out _ e; omega⟩))
    replace HWC := hide (hT9.keeps HWC.out (fun g hg => by
      have hgg : g = g5 := by simpa [Value.ownBlock] using hg.symm
      subst hgg
      have h1 := hg5.out
      have h2 := HS8.out.1
      exact ⟨by omega, fun e => by have h5 := HS8.out.2 _ e; omega, fun e => by have h5 := hg23.out _ e; omega⟩))
    replace HB := hide (HB.out.trans ((HAB.out w9 hT9).mono HB0.out.size))
    have KS := hide (state_any _ S _ _ (n + 1) (n + 1) _ _ _ _ _ _ hA9 (by rw [List.length_append, HX.out]; rfl) (by rw [List.length_append, HN.out]; rfl) (by omega) (by omega))
    clear hA9 hT9
    go_wp2_with fail
    refine KS.out.mono ?_
    rintro e w10 ⟨b0, e0, b1, e1, rfl, hg0, hg1, hb10⟩
    replace HWT := hide (ownsRow_later HWT.out hb10)
    replace HWC := hide (ownsRow_later HWC.out hb10)
    replace HB := hide (HB.out.trans (hb10.mono HB.out.size))
    have HG0 := hide hg0
    have HG1 := hide hg1
    clear hg0 hg1 hb10
    have hfq : (f != f) = false := by simp
    have hnq : ((n : Int) + 1 != (n : Int) + 1) = false := by simp
    go_wp2_with fail
    refine (K7.out b1 e1 w10 HG1.out).mono ?_
    rintro e w11 ⟨rfl, hC11, hb11⟩
    rw [HCN.out] at hC11
    have HG3 := hide hC11
    replace HWT := hide (ownsRow_later HWT.out hb11)
    replace HWC := hide (ownsRow_later HWC.out hb11)
    replace HB := hide (HB.out.trans (hb11.mono HB.out.size))
    replace HG0 := hide (HG0.out.later rfl hb11)
    clear hC11 hb11
    have hxl : Hid ((xs ++ [t]).length = n + 1) := by show _ = _; rw [List.length_append, HX.out]; rfl
    have hcl : Hid ((counts f us ++ [1]).length = n + 1) := by show _ = _; rw [List.length_append, HCL.out]; rfl
    have HGT := hide (ownsRow_row hxl.out (by rw [List.map_append]; exact HWT.out))
    have HGC := hide (ownsRow_row hcl.out (by rw [List.map_append]; exact HWC.out))
    have HGD := hide (ownsRow_row hcl.out HG3.out)
    go_wp2_with fail
    refine (K8.out _ _ _ _ w11 HG0.out HGT.out).mono ?_
    rintro e w12 ⟨rfl, q12, rfl⟩
    replace HGC := hide (HGC.out.later rfl (below_drewN (Below.refl _ _) q12))
    replace HGD := hide (HGD.out.later rfl (below_drewN (Below.refl _ _) q12))
    go_wp2_with fail
    refine (K9.out _ _ _ _ (w11.drewN q12) HGD.out HGC.out).mono ?_
    rintro e w13 ⟨rfl, q13, rfl⟩
    go_wp2
    go_ret
    exact ⟨rfl, below_drewN HB.out _⟩
end Go.Proofs.Qxb6606004aFmt
