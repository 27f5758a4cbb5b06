import Derived.Test.Qxb6605855aWalkD
namespace Go.Proofs.Qxb6605855a
open Go.RowKit

theorem base_any (S nr cr : Nat) (L : Int) (ar : Option Addr) (w : World) (h0 : w.cell? ⟨S, 0, none⟩ = some (.int .u64 L)) (h3 : w.cell? ⟨S, 3, none⟩ = some (.slice ar nr cr)) (hn : nr ≤ 65536) (hL : (nr : Int) ≤ L) (hL2 : L < 18446744073709551616) :
    Calls Try.prog 46 #[.pointer (some ⟨S, 0, none⟩)] w fun e w' => e = .returned (.int .u64 (L - nr)) ∧ ∃ q, w' = w.drewN q := by
  go_enter Try.func46, Try.ntmps46
  go_wp2
  go_quiet (fail)
  go_wp2
  go_ret
  exact ⟨rfl, _, rfl⟩

theorem keptSize_any (e : Ent) (pa : Option Addr) (L pc : Nat) (w : World) (hp : pc ≤ 1048576) :
    Calls Try.prog 47 #[.agg #[.int .u64 e.p, .int .u64 e.m, .int .u64 e.i, .int .u64 e.s, .slice pa L pc, .int .u64 e.k, .int .u64 e.t, .int .u64 e.v]] w fun r w' =>
      r = .returned (.int .i64 ((pc : Int) + 64)) ∧ w' = w.alloc (.cells #[.int .u64 e.p, .int .u64 e.m, .int .u64 e.i, .int .u64 e.s, .slice pa L pc, .int .u64 e.k, .int .u64 e.t, .int .u64 e.v] 52) := by
  go_enter Try.func47, Try.ntmps47
  go_wp2
  go_ret
  exact ⟨rfl, rfl⟩

theorem clip_some (x : Addr) (n c : Nat) (w : World) (h : n ≤ c) :
    Calls Try.prog 48 #[.slice (some x) n c] w fun r w' => r = .returned (.slice (some x) n n) ∧ w = w' := by
  have h1 : (n : Int) ≤ (c : Int) := by omega
  go_enter Try.func48, Try.ntmps48
  go_wp2
  go_ret
  exact ⟨rfl, rfl⟩
theorem clip_none (w : World) : Calls Try.prog 48 #[.slice none 0 0] w fun r w' => r = .returned (.slice none 0 0) ∧ w = w' := by
  go_enter Try.func48, Try.ntmps48
  go_wp2
  go_ret
  exact ⟨rfl, rfl⟩

def asc (rs : List (Int × Int)) : Prop := ∀ i j, i ≤ j → j < rs.length → (rs.getD i (0, 0)).1 ≤ (rs.getD j (0, 0)).1
theorem cmpI_lt {a b : Int} : cmpI a b < 0 ↔ a < b := by
  unfold cmpI
  by_cases h : a < b
  · simp [h]
  · rw [if_neg h]
    by_cases h2 : b < a <;> simp [h2, h]

set_option maxRecDepth 100000 in
set_option maxHeartbeats 1600000 in
/-- slices.BinarySearchFunc(terms, T, compareFrom): how many start before T. -/
theorem search_any (M : Nat → Prop) (a : Option Addr) (c : Nat) (rs : List (Int × Int)) (T : Int) (w : World) (hlen : rs.length ≤ 65536) (hr : RunsAt M w a rs) (hM : ∀ k, M k → k < w.heap.size) (ha : asc rs) :
    Calls Try.prog 49 #[.slice a rs.length c, .int .u64 T, .func (.func 29) #[] #[]] w fun e w' => ∃ (r : Nat) (B : Bool), e = .returned (.tuple #[.int .i64 r, .bool B]) ∧ (r ≤ rs.length ∧ (∀ i, i < r → (rs.getD i (0, 0)).1 < T) ∧ (∀ i, r ≤ i → i < rs.length → T ≤ (rs.getD i (0, 0)).1)) ∧ Below w.heap.size w w' := by
  obtain ⟨n, hn⟩ : ∃ n, rs.length = n := ⟨_, rfl⟩
  have HN := hide hn
  have HR := hide hr
  have HM := hide hM
  have HA := hide ha
  rw [hn] at hlen ⊢
  clear hn hr hM ha
  go_enter Try.func49, Try.ntmps49
  go_wp2
  go_loopg [9, 10] n (fun kx s9 s10 wr => ∃ (lo hi : Nat), s9 = .int .i64 lo ∧ s10 = .int .i64 hi ∧ lo ≤ hi ∧ hi ≤ n ∧ hi - lo ≤ kx ∧
    Hid ((∀ t, t < lo → (rs.getD t (0, 0)).1 < T) ∧ (∀ t, hi ≤ t → t < n → T ≤ (rs.getD t (0, 0)).1) ∧ Below w.heap.size w wr))
  case atStart => exact ⟨0, n, rfl, rfl, Nat.zero_le _, Nat.le_refl _, by omega, And.intro (fun t ht => absurd ht (Nat.not_lt_zero _)) (And.intro (fun t h1 h2 => by omega) (Below.refl _ _))⟩
  case round =>
    obtain ⟨lo, hi, rfl, rfl, hlh, hin, hg, I⟩ := hrel
    by_cases hlt : lo < hi
    · obtain ⟨b, off, hx, hb, s0, s1⟩ := HR.out.at HN.out (show (lo + hi) / 2 < n by omega)
      cases hx
      have hbl := HM.out b hb
      rw [← I.out.2.2.cell (p := ⟨b, off + (lo + hi) / 2 * 2, none⟩) hbl] at s0
      rw [← I.out.2.2.cell (p := ⟨b, off + (lo + hi) / 2 * 2 + 1, none⟩) hbl] at s1
      have hmid : ((lo : Int) + (hi : Int)) / 2 = (((lo + hi) / 2 : Nat) : Int) := by omega
      obtain ⟨md, hmd⟩ : ∃ md, (lo + hi) / 2 = md := ⟨_, rfl⟩
      have hmd1 : lo ≤ md ∧ md < hi := by omega
      have hmi : ((lo : Int) + (hi : Int)) / 2 = (md : Int) := by rw [hmid, hmd]
      rw [hmd] at s0 s1
      obtain ⟨f, hf⟩ : ∃ f, (rs.getD md (0, 0)).1 = f := ⟨_, rfl⟩
      have HF := hide hf
      rw [hf] at s0
      generalize (rs.getD md (0, 0)).2 = t at s1
      clear hf hmid hmd
      obtain ⟨hmd1, hmd2⟩ := hmd1
      by_cases hc : cmpI f T < 0
      · go_wp2_with (go_at_call 29; refine (compareFrom_any _ _ _ _).mono ?_; rintro e w' ⟨rfl, rfl⟩)
        go_roundg (hi - (md + 1))
        case measure => omega
        case rel =>
          refine ⟨md + 1, hi, by go_num, rfl, by omega, hin, Nat.le_refl _, And.intro (fun t ht => ?_) (And.intro I.out.2.1 (I.out.2.2.alloc I.out.2.2.size _))⟩
          have h1 := HA.out t md (by omega) (by rw [HN.out]; omega)
          have h2 := cmpI_lt.1 hc
          rw [HF.out] at h1
          omega
      · go_wp2_with (go_at_call 29; refine (compareFrom_any _ _ _ _).mono ?_; rintro e w' ⟨rfl, rfl⟩)
        go_roundg (md - lo)
        case measure => omega
        case rel =>
          refine ⟨lo, md, rfl, rfl, by omega, by omega, Nat.le_refl _, And.intro I.out.1 (And.intro (fun t h1 h2 => ?_) (I.out.2.2.alloc I.out.2.2.size _))⟩
          have h3 := HA.out md t h1 (by rw [HN.out]; omega)
          have h4 : ¬ f < T := fun h => by have := cmpI_lt.2 h; omega
          rw [HF.out] at h3
          omega
    · obtain rfl : hi = lo := by omega
      by_cases hrn : hi < n
      · obtain ⟨b, off, hx, hb, s0, s1⟩ := HR.out.at HN.out hrn
        cases hx
        have hbl := HM.out b hb
        rw [← I.out.2.2.cell (p := ⟨b, off + hi * 2, none⟩) hbl] at s0
        rw [← I.out.2.2.cell (p := ⟨b, off + hi * 2 + 1, none⟩) hbl] at s1
        generalize (rs.getD hi (0, 0)).1 = f at s0
        generalize (rs.getD hi (0, 0)).2 = t at s1
        go_wp2_with (go_at_call 29; refine (compareFrom_any _ _ _ _).mono ?_; rintro e w' ⟨rfl, rfl⟩)
        go_ret2
        exact ⟨hi, _, rfl, ⟨hin, I.out.1, I.out.2.1⟩, I.out.2.2.alloc I.out.2.2.size _⟩
      · go_wp2
        go_ret2
        exact ⟨hi, _, rfl, ⟨hin, I.out.1, I.out.2.1⟩, I.out.2.2⟩
end Go.Proofs.Qxb6605855a
