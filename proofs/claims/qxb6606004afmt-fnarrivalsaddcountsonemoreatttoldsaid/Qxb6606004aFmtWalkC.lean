import Derived.Test.Qxb6606004aFmtWalkB
namespace Go.Proofs.Qxb6606004aFmt
open Go.RowKit

set_option maxHeartbeats 400000 in
theorem nondec_any (a : Option Addr) (cap : Nat) (xs : List Int) (w : World) (hlen : xs.length ≤ 1048576) (hc : RowAt w a xs) :
    Calls Tryf.prog 17 #[.slice a xs.length cap] w fun e w' => e = .returned (.bool (nondec xs)) ∧ ∃ q, w' = w.drewN q := by
  obtain ⟨n, hn⟩ : ∃ n, xs.length = n := ⟨_, rfl⟩
  have HN : Hid _ := hn
  rw [hn] at hlen ⊢
  clear hn
  go_enter Tryf.func17, Tryf.ntmps17
  go_wp2
  go_loopw [3] (fun i wr => ∃ k q : Nat, (k = 0 ∨ k + 1 ≤ n) ∧ i = .int .i64 ((k : Int) + 1) ∧ Hid (nondecTo xs k = true) ∧ wr = w.drewN q) (fun i _ => n - (intOf i).toNat)
  case atStart => exact ⟨0, 0, .inl rfl, rfl, (rfl : nondecTo xs 0 = true), rfl⟩
  case round =>
    obtain ⟨k, q, hk, rfl, HT, rfl⟩ := hrel
    by_cases hlt : k + 1 < n
    · obtain ⟨b, off, hx, hb, h1⟩ := hc.at HN.out (show k < n by omega)
      obtain ⟨b', off', hx', hb', h2⟩ := hc.at HN.out hlt
      cases hx; cases hx'
      have HS := hide (nondecTo_succ xs k)
      generalize xs.getD k 0 = x at h1 HS
      generalize xs.getD (k + 1) 0 = y at h2 HS
      have hlt' : (k : Int) + 1 < (n : Int) := by omega
      clear hk hc
      by_cases hxy : y < x
      · go_wp2
        go_quiet (fail)
        go_wp2
        go_ret
        have hf : nondec xs = false := nondecTo_false (k := k + 1) (by rw [HS.out, HT.out]; simp; omega) (by rw [HN.out]; omega)
        rw [hf]
        exact ⟨rfl, q + nq, by rw [World.drewN_drewN]⟩
      · go_wp2
        go_quiet (fail)
        go_wp2
        go_roundw
        case rel => exact ⟨k + 1, q + nq, by omega, by go_num, (by rw [HS.out, HT.out]; simp; omega : nondecTo xs (k + 1) = true), rfl⟩
        case measure => simp [intOf]; omega
    · go_wp2
      go_ret
      have hf : nondec xs = true := by
        have h := HT.out
        unfold nondec
        rw [HN.out]
        rcases hk with hk | hk
        · subst hk; rw [show n - 1 = 0 by omega]; rfl
        · rw [show n - 1 = k by omega]; exact h
      rw [hf]
      exact ⟨rfl, _, rfl⟩

set_option maxHeartbeats 400000 in
theorem strict_any (a : Option Addr) (cap : Nat) (xs : List Int) (w : World) (hlen : xs.length ≤ 1048576) (hc : RowAt w a xs) :
    Calls Tryf.prog 24 #[.slice a xs.length cap] w fun e w' => e = .returned (.bool (strict xs)) ∧ ∃ q, w' = w.drewN q := by
  obtain ⟨n, hn⟩ : ∃ n, xs.length = n := ⟨_, rfl⟩
  have HN : Hid _ := hn
  rw [hn] at hlen ⊢
  clear hn
  go_enter Tryf.func24, Tryf.ntmps24
  go_wp2
  go_loopw [3] (fun i wr => ∃ k q : Nat, (k = 0 ∨ k + 1 ≤ n) ∧ i = .int .i64 ((k : Int) + 1) ∧ Hid (strictTo xs k = true) ∧ wr = w.drewN q) (fun i _ => n - (intOf i).toNat)
  case atStart => exact ⟨0, 0, .inl rfl, rfl, (rfl : strictTo xs 0 = true), rfl⟩
  case round =>
    obtain ⟨k, q, hk, rfl, HT, rfl⟩ := hrel
    by_cases hlt : k + 1 < n
    · obtain ⟨b, off, hx, hb, h1⟩ := hc.at HN.out (show k < n by omega)
      obtain ⟨b', off', hx', hb', h2⟩ := hc.at HN.out hlt
      cases hx; cases hx'
      have HS := hide (strictTo_succ xs k)
      generalize xs.getD k 0 = x at h1 HS
      generalize xs.getD (k + 1) 0 = y at h2 HS
      have hlt' : (k : Int) + 1 < (n : Int) := by omega
      clear hk hc
      by_cases hxy : y ≤ x
      · go_wp2
        go_quiet (fail)
        go_wp2
        go_ret
        have hf : strict xs = false := strictTo_false (k := k + 1) (by rw [HS.out, HT.out]; simp; omega) (by rw [HN.out]; omega)
        rw [hf]
        exact ⟨rfl, q + nq, by rw [World.drewN_drewN]⟩
      · go_wp2
        go_quiet (fail)
        go_wp2
        go_roundw
        case rel => exact ⟨k + 1, q + nq, by omega, by go_num, (by rw [HS.out, HT.out]; simp; omega : strictTo xs (k + 1) = true), rfl⟩
        case measure => simp [intOf]; omega
    · go_wp2
      go_ret
      have hf : strict xs = true := by
        have h := HT.out
        unfold strict
        rw [HN.out]
        rcases hk with hk | hk
        · subst hk; rw [show n - 1 = 0 by omega]; rfl
        · rw [show n - 1 = k by omega]; exact h
      rw [hf]
      exact ⟨rfl, _, rfl⟩

theorem bytes6 (a a2 : Option Addr) (n c n2 c2 : Nat) (f t : Int) (w : World) :
    Calls Tryf.prog 6 #[.slice a n c, .slice a2 n2 c2, .int .i64 f, .int .i64 t] w fun e w' => e = .returned (.bool (decide (n + n2 ≤ 1048576))) ∧ w = w' := by
  by_cases h1 : (1048576 : Int) < (n : Int)
  · have hd : decide (n + n2 ≤ 1048576) = false := decide_eq_false (by omega)
    rw [hd]
    go_enter Tryf.func6, Tryf.ntmps6
    go_wp2
    go_ret
    exact ⟨rfl, rfl⟩
  · by_cases h2 : (1048576 : Int) < (n2 : Int)
    · have hd : decide (n + n2 ≤ 1048576) = false := decide_eq_false (by omega)
      rw [hd]
      go_enter Tryf.func6, Tryf.ntmps6
      go_wp2
      go_ret
      exact ⟨rfl, rfl⟩
    · by_cases h3 : (1048576 : Int) < (n : Int) + (n2 : Int)
      · have hd : decide (n + n2 ≤ 1048576) = false := decide_eq_false (by omega)
        rw [hd]
        go_enter Tryf.func6, Tryf.ntmps6
        go_wp2
        go_ret
        exact ⟨rfl, rfl⟩
      · have hd : decide (n + n2 ≤ 1048576) = true := decide_eq_true (by omega)
        rw [hd]
        go_enter Tryf.func6, Tryf.ntmps6
        go_wp2
        go_ret
        exact ⟨rfl, rfl⟩

/-- What 'prev' holds ahead of round k. -/
def prevAt (f : Int) (us : List Int) (k : Nat) : Int := if k = 0 then f else us.getD (k - 1) 0
def incTo (f : Int) (us : List Int) (k : Nat) : Bool := (List.range k).all fun i => decide (prevAt f us i < us.getD i 0)
def topI : Int := 9223372036854775807
def wfArr (xs us : List Int) (f : Int) : Bool :=
  decide (us.length = xs.length) && (decide (0 ≤ f) && (strict xs && (incTo f us us.length && decide (prevAt f us us.length < topI))))

theorem prevAt_zero (f : Int) (us : List Int) : prevAt f us 0 = f := by simp [prevAt]
theorem prevAt_succ (f : Int) (us : List Int) (k : Nat) : prevAt f us (k + 1) = us.getD k 0 := by simp [prevAt]
theorem incTo_succ (f : Int) (us : List Int) (k : Nat) : incTo f us (k + 1) = (incTo f us k && decide (prevAt f us k < us.getD k 0)) := by
  simp [incTo, List.range_succ]
theorem incTo_at {f : Int} {us : List Int} {k i : Nat} (h : incTo f us k = true) (hi : i < k) : prevAt f us i < us.getD i 0 := by
  simp only [incTo, List.all_eq_true, List.mem_range, decide_eq_true_eq] at h
  exact h i hi
theorem incTo_false {f : Int} {us : List Int} {k m : Nat} (h : incTo f us k = false) (hm : k ≤ m) : incTo f us m = false := by
  cases hh : incTo f us m with
  | false => rfl
  | true =>
    have : incTo f us k = true := by
      simp only [incTo, List.all_eq_true, List.mem_range, decide_eq_true_eq] at hh ⊢
      exact fun i hi => hh i (by omega)
    rw [h] at this; cases this

theorem wfArr_true {xs us : List Int} {f : Int} (h : wfArr xs us f = true) : us.length = xs.length ∧ 0 ≤ f ∧ strict xs = true ∧ incTo f us us.length = true ∧ prevAt f us us.length < topI := by
  simp only [wfArr, Bool.and_eq_true, decide_eq_true_eq] at h
  exact h

set_option maxHeartbeats 800000 in
theorem wf_any (a0 a1 : Option Addr) (c0 c1 : Nat) (xs us : List Int) (f : Int) (w : World) (hlx : xs.length ≤ 1048576) (hlu : us.length ≤ 1048576) (hr0 : RowAt w a0 xs) (hr1 : RowAt w a1 us) :
    Calls Tryf.prog 7 #[.slice a0 xs.length c0, .slice a1 us.length c1, .int .i64 f] w fun e w' => e = .returned (.bool (wfArr xs us f)) ∧ ∃ q, w' = w.drewN q := by
  have K0 := hide (strict_any a0 c0 xs w hlx hr0)
  clear hr0
  by_cases hl : us.length = xs.length
  · by_cases hf : f < 0
    · have hv : wfArr xs us f = false := by simp [wfArr, show ¬ (0 ≤ f) by omega]
      rw [hv, hl]
      clear hl hv hr1
      obtain ⟨n, hn⟩ : ∃ n, xs.length = n := ⟨_, rfl⟩
      rw [hn] at hlx ⊢
      clear hn K0
      have hd : ((n : Int) != (n : Int)) = false := by simp
      go_enter Tryf.func7, Tryf.ntmps7
      go_wp2
      go_ret
      exact ⟨rfl, 0, rfl⟩
    · cases hst : strict xs with
      | false =>
        have hv : wfArr xs us f = false := by simp [wfArr, hst]
        rw [hst] at K0
        rw [hv, hl]
        clear hl hv hr1 hst
        obtain ⟨n, hn⟩ : ∃ n, xs.length = n := ⟨_, rfl⟩
        rw [hn] at K0 hlx ⊢
        clear hn
        have hd : ((n : Int) != (n : Int)) = false := by simp
        go_enter Tryf.func7, Tryf.ntmps7
        go_wp2_with fail
        refine K0.out.mono ?_
        rintro e w' ⟨rfl, q, rfl⟩
        go_wp2
        go_ret
        exact ⟨rfl, q, rfl⟩
      | true =>
        obtain ⟨B, hB⟩ : ∃ B, wfArr xs us f = B := ⟨_, rfl⟩
        have HB : Hid ((incTo f us us.length && decide (prevAt f us us.length < topI)) = B) := by
          rw [← hB]; show _ = _; simp [wfArr, hst, hl, show 0 ≤ f by omega]
        rw [hst] at K0
        rw [hB]
        clear hst hB
        have HR1 := hide (fun q => hr1.later rfl (below_drewN (Below.refl _ _) q))
        rw [← hl] at K0 ⊢
        clear hl hr1
        obtain ⟨n, hn⟩ : ∃ n, us.length = n := ⟨_, rfl⟩
        have HN := hide hn
        rw [hn] at K0 hlu HB ⊢
        clear hn
        have hd : ((n : Int) != (n : Int)) = false := by simp
        go_enter Tryf.func7, Tryf.ntmps7
        go_wp2_with fail
        refine K0.out.mono ?_
        rintro e w' ⟨rfl, q, rfl⟩
        go_wp2
        go_loop [7, 8] (fun s7 s8 => ∃ k : Nat, k ≤ n ∧ s8 = .int .i64 k ∧ s7 = .int .i64 (prevAt f us k) ∧ Hid (incTo f us k = true)) (fun _ i => n - (intOf i).toNat)
        case atStart => exact ⟨0, Nat.zero_le _, rfl, by rw [prevAt_zero], (rfl : incTo f us 0 = true)⟩
        case round =>
          obtain ⟨k, hk, rfl, rfl, HT⟩ := hrel
          have HS := hide (incTo_succ f us k)
          have HP := hide (prevAt_succ f us k)
          by_cases hlt : k < n
          · obtain ⟨b, off, hx, hb, hsrc⟩ := (HR1.out q).at HN.out hlt
            cases hx
            generalize prevAt f us k = p at HS
            generalize us.getD k 0 = u at hsrc HS HP
            by_cases hup : u ≤ p
            · go_wp2
              go_ret
              have hB : B = false := by rw [← HB.out, incTo_false (k := k + 1) (by rw [HS.out, HT.out]; simp; omega) (by omega)]; rfl
              rw [hB]
              exact ⟨rfl, q, rfl⟩
            · go_wp2
              go_round
              case rel => exact ⟨k + 1, by omega, by go_num, by rw [HP.out], (by rw [HS.out, HT.out]; simp; omega : incTo f us (k + 1) = true)⟩
              case measure => simp [intOf]; omega
          · obtain rfl : k = n := by omega
            have hB : Hid (B = decide (prevAt f us k < topI)) := by show B = _; rw [← HB.out, HT.out]; rfl
            clear HB HS HP
            generalize prevAt f us k = p at hB
            go_wp2
            go_ret
            rw [hB.out]
            exact ⟨rfl, q, rfl⟩
  · have hv : wfArr xs us f = false := by simp [wfArr, hl]
    have hd : ((us.length : Int) != (xs.length : Int)) = true := by rw [bne_iff_ne]; omega
    rw [hv]
    clear hv hl hr1
    generalize us.length = m at *
    generalize xs.length = n at *
    clear K0
    go_enter Tryf.func7, Tryf.ntmps7
    go_wp2
    go_ret
    exact ⟨rfl, 0, rfl⟩
end Go.Proofs.Qxb6606004aFmt
