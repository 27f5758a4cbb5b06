import Derived.Test.Qxb6606004aWalkB
namespace Go.Proofs.Qxb6606004a
open Go.RowKit

set_option maxHeartbeats 400000 in
theorem nondec_any (a : Option Addr) (cap : Nat) (xs : List Int) (w : World) (hlen : xs.length ≤ 1048576) (hc : RowAt w a xs) :
    Calls Try.prog 8 #[.slice a xs.length cap] w fun e w' => e = .returned (.bool (nondec xs)) ∧ ∃ q, w' = w.drewN q := by
  obtain ⟨n, hn⟩ : ∃ n, xs.length = n := ⟨_, rfl⟩
  have HN : Hid _ := hn
  rw [hn] at hlen ⊢
  clear hn
  go_enter Try.func8, Try.ntmps8
  go_wp2
  go_loopw [3] (fun i wr => ∃ k q : Nat, (k = 0 ∨ k + 1 ≤ n) ∧ i = .int .i64 ((k : Int) + 1) ∧ Hid (nondecTo xs k = true) ∧ wr = w.drewN q) (fun i _ => n - (intOf i).toNat)
  case atStart => exact ⟨0, 0, .inl rfl, rfl, (rfl : nondecTo xs 0 = true), rfl⟩
  case round =>
    obtain ⟨k, q, hk, rfl, HT, rfl⟩ := hrel
    by_cases hlt : k + 1 < n
    · obtain ⟨b, off, hx, hb, h1⟩ := hc.at HN.out (show k < n by omega)
      obtain ⟨b', off', hx', hb', h2⟩ := hc.at HN.out hlt
      cases hx; cases hx'
      have HS := hide (nondecTo_succ xs k)
      generalize xs.getD k 0 = x at h1 HS
      generalize xs.getD (k + 1) 0 = y at h2 HS
      have hlt' : (k : Int) + 1 < (n : Int) := by omega
      clear hk hc
      by_cases hxy : y < x
      · go_wp2
        go_quiet (fail)
        go_wp2
        go_ret
        have hf : nondec xs = false := nondecTo_false (k := k + 1) (by rw [HS.out, HT.out]; simp; omega) (by rw [HN.out]; omega)
        rw [hf]
        exact ⟨rfl, q + nq, by rw [World.drewN_drewN]⟩
      · go_wp2
        go_quiet (fail)
        go_wp2
        go_roundw
        case rel => exact ⟨k + 1, q + nq, by omega, by go_num, (by rw [HS.out, HT.out]; simp; omega : nondecTo xs (k + 1) = true), rfl⟩
        case measure => simp [intOf]; omega
    · go_wp2
      go_ret
      have hf : nondec xs = true := by
        have h := HT.out
        unfold nondec
        rw [HN.out]
        rcases hk with hk | hk
        · subst hk; rw [show n - 1 = 0 by omega]; rfl
        · rw [show n - 1 = k by omega]; exact h
      rw [hf]
      exact ⟨rfl, _, rfl⟩

set_option maxHeartbeats 400000 in
theorem strict_any (a : Option Addr) (cap : Nat) (xs : List Int) (w : World) (hlen : xs.length ≤ 1048576) (hc : RowAt w a xs) :
    Calls Try.prog 23 #[.slice a xs.length cap] w fun e w' => e = .returned (.bool (strict xs)) ∧ ∃ q, w' = w.drewN q := by
  obtain ⟨n, hn⟩ : ∃ n, xs.length = n := ⟨_, rfl⟩
  have HN : Hid _ := hn
  rw [hn] at hlen ⊢
  clear hn
  go_enter Try.func23, Try.ntmps23
  go_wp2
  go_loopw [3] (fun i wr => ∃ k q : Nat, (k = 0 ∨ k + 1 ≤ n) ∧ i = .int .i64 ((k : Int) + 1) ∧ Hid (strictTo xs k = true) ∧ wr = w.drewN q) (fun i _ => n - (intOf i).toNat)
  case atStart => exact ⟨0, 0, .inl rfl, rfl, (rfl : strictTo xs 0 = true), rfl⟩
  case round =>
    obtain ⟨k, q, hk, rfl, HT, rfl⟩ := hrel
    by_cases hlt : k + 1 < n
    · obtain ⟨b, off, hx, hb, h1⟩ := hc.at HN.out (show k < n by omega)
      obtain ⟨b', off', hx', hb', h2⟩ := hc.at HN.out hlt
      cases hx; cases hx'
      have HS := hide (strictTo_succ xs k)
      generalize xs.getD k 0 = x at h1 HS
      generalize xs.getD (k + 1) 0 = y at h2 HS
      have hlt' : (k : Int) + 1 < (n : Int) := by omega
      clear hk hc
      by_cases hxy : y ≤ x
      · go_wp2
        go_quiet (fail)
        go_wp2
        go_ret
        have hf : strict xs = false := strictTo_false (k := k + 1) (by rw [HS.out, HT.out]; simp; omega) (by rw [HN.out]; omega)
        rw [hf]
        exact ⟨rfl, q + nq, by rw [World.drewN_drewN]⟩
      · go_wp2
        go_quiet (fail)
        go_wp2
        go_roundw
        case rel => exact ⟨k + 1, q + nq, by omega, by go_num, (by rw [HS.out, HT.out]; simp; omega : strictTo xs (k + 1) = true), rfl⟩
        case measure => simp [intOf]; omega
    · go_wp2
      go_ret
      have hf : strict xs = true := by
        have h := HT.out
        unfold strict
        rw [HN.out]
        rcases hk with hk | hk
        · subst hk; rw [show n - 1 = 0 by omega]; rfl
        · rw [show n - 1 = k by omega]; exact h
      rw [hf]
      exact ⟨rfl, _, rfl⟩

/-! ### The wrappers -/
theorem stepAt12 (S c : Nat) (a : Option Addr) (xs : List Int) (t : Int) (w : World) (hlen : xs.length ≤ 1048576) (hS : w.cell? ⟨S, 0, none⟩ = some (.slice a xs.length c)) (hrow : RowAt w a xs)
    (hs : nondec xs = true) :
    Calls Try.prog 12 #[.pointer (some ⟨S, 0, none⟩), .int .i64 t] w fun e w' => e = .returned (.int .i64 (((xs.countP (fun x => decide (x ≤ t)) : Nat) : Int) - 1)) ∧ Below w.heap.size w w' := by
  have hcon := method_step S c a xs t w hlen hS hrow hs
  clear hS hrow hs
  generalize ((xs.countP (fun x => decide (x ≤ t)) : Nat) : Int) - 1 = r at hcon ⊢
  go_enter Try.func12, Try.ntmps12
  go_wp2_with (go_at_call 22; refine hcon.mono ?_; rintro e w' ⟨rfl, hb⟩)
  go_ret
  exact ⟨rfl, hb⟩

theorem index19 (S c : Nat) (a : Option Addr) (xs : List Int) (t : Int) (w : World) (hlen : xs.length ≤ 1048576) (hS : w.cell? ⟨S, 0, none⟩ = some (.slice a xs.length c)) (hrow : RowAt w a xs)
    (hs : nondec xs = true) :
    Calls Try.prog 19 #[.pointer (some ⟨S, 0, none⟩), .int .i64 t] w fun e w' => e = .returned (.int .i64 ((xs.countP (fun x => decide (x < t)) : Nat) : Int)) ∧ Below w.heap.size w w' := by
  have hcon := method_index S c a xs t w hlen hS hrow hs
  clear hS hrow hs
  generalize ((xs.countP (fun x => decide (x < t)) : Nat) : Int) = r at hcon ⊢
  go_enter Try.func19, Try.ntmps19
  go_wp2_with (go_at_call 24; refine hcon.mono ?_; rintro e w' ⟨rfl, hb⟩)
  go_ret
  exact ⟨rfl, hb⟩

theorem newSeries (a a2 : Option Addr) (c n2 c2 : Nat) (xs : List Int) (w : World) (hlen : xs.length ≤ 1048576) (hrow : RowAt w a xs) (h0 : a = none → c = 0) :
    Calls Try.prog 11 #[.slice a xs.length c, .slice a2 n2 c2] w fun e w' => ∃ S a' c', e = .returned (.pointer (some ⟨S, 0, none⟩)) ∧ w'.cell? ⟨S, 0, none⟩ = some (.slice a' xs.length c') ∧ RowAt w' a' xs ∧ Below w.heap.size w w' := by
  have hcon := toDur_any a c xs w hlen hrow h0
  clear hrow h0
  obtain ⟨n, hn⟩ : ∃ n, xs.length = n := ⟨_, rfl⟩
  rw [hn] at hcon hlen ⊢
  clear hn
  go_enter Try.func11, Try.ntmps11
  go_wp2_with (go_at_call 21; refine hcon.mono ?_; rintro e w1 ⟨a', c', rfl, hrow, h0, hb⟩)
  go_ret
  refine ⟨w1.heap.size, a', c', rfl, by rw [World.cell?_alloc_new]; rfl, hrow.later rfl ((Below.refl _ _).alloc (Nat.le_refl _) _), hb.alloc hb.size _⟩

theorem newArrivals (a a2 : Option Addr) (c n2 c2 : Nat) (f : Int) (xs : List Int) (w : World) (hlen : xs.length ≤ 1048576) (hrow : RowAt w a xs) (h0 : a = none → c = 0) :
    Calls Try.prog 18 #[.slice a xs.length c, .slice a2 n2 c2, .int .i64 f] w fun e w' => ∃ S a' c', e = .returned (.pointer (some ⟨S, 0, none⟩)) ∧ w'.cell? ⟨S, 0, none⟩ = some (.slice a' xs.length c') ∧ RowAt w' a' xs ∧ Below w.heap.size w w' := by
  have hcon := toDur_any a c xs w hlen hrow h0
  clear hrow h0
  obtain ⟨n, hn⟩ : ∃ n, xs.length = n := ⟨_, rfl⟩
  rw [hn] at hcon hlen ⊢
  clear hn
  go_enter Try.func18, Try.ntmps18
  go_wp2_with (go_at_call 21; refine hcon.mono ?_; rintro e w1 ⟨a', c', rfl, hrow, h0, hb⟩)
  go_ret
  refine ⟨w1.heap.size, a', c', rfl, by rw [World.cell?_alloc_new]; rfl, hrow.later rfl ((Below.refl _ _).alloc (Nat.le_refl _) _), hb.alloc hb.size _⟩

/-! ### The bound on total length -/
theorem bytes7 (a a2 : Option Addr) (n c n2 c2 : Nat) (t : Int) (w : World) :
    Calls Try.prog 7 #[.slice a n c, .slice a2 n2 c2, .int .i64 t] w fun e w' => e = .returned (.bool (decide (n + n2 ≤ 1048576))) ∧ w = w' := by
  by_cases h1 : (1048576 : Int) < (n : Int)
  · have hd : decide (n + n2 ≤ 1048576) = false := decide_eq_false (by omega)
    rw [hd]
    go_enter Try.func7, Try.ntmps7
    go_wp2
    go_ret
    exact ⟨rfl, rfl⟩
  · by_cases h2 : (1048576 : Int) < (n2 : Int)
    · have hd : decide (n + n2 ≤ 1048576) = false := decide_eq_false (by omega)
      rw [hd]
      go_enter Try.func7, Try.ntmps7
      go_wp2
      go_ret
      exact ⟨rfl, rfl⟩
    · by_cases h3 : (1048576 : Int) < (n : Int) + (n2 : Int)
      · have hd : decide (n + n2 ≤ 1048576) = false := decide_eq_false (by omega)
        rw [hd]
        go_enter Try.func7, Try.ntmps7
        go_wp2
        go_ret
        exact ⟨rfl, rfl⟩
      · have hd : decide (n + n2 ≤ 1048576) = true := decide_eq_true (by omega)
        rw [hd]
        go_enter Try.func7, Try.ntmps7
        go_wp2
        go_ret
        exact ⟨rfl, rfl⟩

theorem bytes13 (a a2 : Option Addr) (n c n2 c2 : Nat) (t t2 : Int) (w : World) :
    Calls Try.prog 13 #[.slice a n c, .slice a2 n2 c2, .int .i64 t, .int .i64 t2] w fun e w' => e = .returned (.bool (decide (n + n2 ≤ 1048576))) ∧ w = w' := by
  by_cases h1 : (1048576 : Int) < (n : Int)
  · have hd : decide (n + n2 ≤ 1048576) = false := decide_eq_false (by omega)
    rw [hd]
    go_enter Try.func13, Try.ntmps13
    go_wp2
    go_ret
    exact ⟨rfl, rfl⟩
  · by_cases h2 : (1048576 : Int) < (n2 : Int)
    · have hd : decide (n + n2 ≤ 1048576) = false := decide_eq_false (by omega)
      rw [hd]
      go_enter Try.func13, Try.ntmps13
      go_wp2
      go_ret
      exact ⟨rfl, rfl⟩
    · by_cases h3 : (1048576 : Int) < (n : Int) + (n2 : Int)
      · have hd : decide (n + n2 ≤ 1048576) = false := decide_eq_false (by omega)
        rw [hd]
        go_enter Try.func13, Try.ntmps13
        go_wp2
        go_ret
        exact ⟨rfl, rfl⟩
      · have hd : decide (n + n2 ≤ 1048576) = true := decide_eq_true (by omega)
        rw [hd]
        go_enter Try.func13, Try.ntmps13
        go_wp2
        go_ret
        exact ⟨rfl, rfl⟩

theorem bytes15 (a a2 : Option Addr) (n c n2 c2 : Nat) (f t : Int) (w : World) :
    Calls Try.prog 15 #[.slice a n c, .slice a2 n2 c2, .int .i64 f, .int .i64 t] w fun e w' => e = .returned (.bool (decide (n + n2 ≤ 1048576))) ∧ w = w' := by
  by_cases h1 : (1048576 : Int) < (n : Int)
  · have hd : decide (n + n2 ≤ 1048576) = false := decide_eq_false (by omega)
    rw [hd]
    go_enter Try.func15, Try.ntmps15
    go_wp2
    go_ret
    exact ⟨rfl, rfl⟩
  · by_cases h2 : (1048576 : Int) < (n2 : Int)
    · have hd : decide (n + n2 ≤ 1048576) = false := decide_eq_false (by omega)
      rw [hd]
      go_enter Try.func15, Try.ntmps15
      go_wp2
      go_ret
      exact ⟨rfl, rfl⟩
    · by_cases h3 : (1048576 : Int) < (n : Int) + (n2 : Int)
      · have hd : decide (n + n2 ≤ 1048576) = false := decide_eq_false (by omega)
        rw [hd]
        go_enter Try.func15, Try.ntmps15
        go_wp2
        go_ret
        exact ⟨rfl, rfl⟩
      · have hd : decide (n + n2 ≤ 1048576) = true := decide_eq_true (by omega)
        rw [hd]
        go_enter Try.func15, Try.ntmps15
        go_wp2
        go_ret
        exact ⟨rfl, rfl⟩

theorem bytes20 (a a2 : Option Addr) (n c n2 c2 : Nat) (f : Int) (w : World) :
    Calls Try.prog 20 #[.slice a n c, .slice a2 n2 c2, .int .i64 f] w fun e w' => e = .returned (.bool (decide (n + n2 ≤ 1048576))) ∧ w = w' := by
  by_cases h1 : (1048576 : Int) < (n : Int)
  · have hd : decide (n + n2 ≤ 1048576) = false := decide_eq_false (by omega)
    rw [hd]
    go_enter Try.func20, Try.ntmps20
    go_wp2
    go_ret
    exact ⟨rfl, rfl⟩
  · by_cases h2 : (1048576 : Int) < (n2 : Int)
    · have hd : decide (n + n2 ≤ 1048576) = false := decide_eq_false (by omega)
      rw [hd]
      go_enter Try.func20, Try.ntmps20
      go_wp2
      go_ret
      exact ⟨rfl, rfl⟩
    · by_cases h3 : (1048576 : Int) < (n : Int) + (n2 : Int)
      · have hd : decide (n + n2 ≤ 1048576) = false := decide_eq_false (by omega)
        rw [hd]
        go_enter Try.func20, Try.ntmps20
        go_wp2
        go_ret
        exact ⟨rfl, rfl⟩
      · have hd : decide (n + n2 ≤ 1048576) = true := decide_eq_true (by omega)
        rw [hd]
        go_enter Try.func20, Try.ntmps20
        go_wp2
        go_ret
        exact ⟨rfl, rfl⟩

end Go.Proofs.Qxb6606004a
