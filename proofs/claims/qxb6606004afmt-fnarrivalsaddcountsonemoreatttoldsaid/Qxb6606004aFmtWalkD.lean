import Derived.Test.Qxb6606004aFmtWalkC
namespace Go.Proofs.Qxb6606004aFmt
open Go.RowKit

/-- countsOf: the arrivals at each recorded time. -/
def counts (f : Int) (us : List Int) : List Int := (List.range us.length).map fun i => us.getD i 0 - prevAt f us i
theorem counts_length (f : Int) (us : List Int) : (counts f us).length = us.length := by simp [counts]
theorem counts_at (f : Int) (us : List Int) (i : Nat) (h : i < us.length) : (counts f us).getD i 0 = us.getD i 0 - prevAt f us i := by
  simp [counts, List.getD, h]

set_option maxHeartbeats 400000 in
theorem countsOf_any (a : Option Addr) (cap : Nat) (us : List Int) (f : Int) (w : World) (hlen : us.length ≤ 1048576) (hc : RowAt w a us)
    (hb : ∀ i, i < us.length → 0 ≤ prevAt f us i ∧ prevAt f us i ≤ us.getD i 0 ∧ us.getD i 0 ≤ 9223372036854775807) :
    Calls Tryf.prog 10 #[.slice a us.length cap, .int .i64 f] w fun e w' => e = .returned (.slice (some ⟨w.heap.size, 0, none⟩) us.length us.length) ∧
      w'.ownsRow w.heap.size 3 1 (.slice (some ⟨w.heap.size, 0, none⟩) us.length us.length) us.length ((counts f us).map (Value.int .i64)) ∧ Below w.heap.size w w' := by
  obtain ⟨i0, hi, hz0, hz1, hz2⟩ := info_parts Tryf.info3
  have HB := hide hb
  clear hb
  obtain ⟨n, hn⟩ : ∃ n, us.length = n := ⟨_, rfl⟩
  have HN := hide hn
  rw [hn] at hlen ⊢
  clear hn
  have HL : Hid ((counts f us).length = n) := by show _ = _; rw [counts_length, HN.out]
  go_enter Tryf.func10, Tryf.ntmps10
  go_wp2_with (at_make; refine wpList_make_full _ rfl _ _ 23 rfl w.heap.size 3 i0 (.int .i64 0) 1 Tryf.underlying23 hi hz0 hz1 _ _ _ _ n rfl rfl (by omega) (by omega) ?b2 ?b3 (Nat.le_refl _) ?_)
  case b2 => rw [hz2]; omega
  case b3 => unfold maxLen; omega
  intro w0 hown0 hgrow0
  rw [toList_madeCells_one] at hown0
  have hbel0 : Below w.heap.size w w0 := (Below.refl _ _).grown hgrow0 (Nat.le_refl _) (fun k h => by cases h)
  clear hgrow0
  go_wp2
  go_loopw [6, 7] (fun s6 i wr => ∃ k : Nat, k ≤ n ∧ i = .int .i64 k ∧ s6 = .int .i64 (prevAt f us k) ∧ wr.ownsRow w.heap.size 3 1 (.slice (some ⟨w.heap.size, 0, none⟩) n n) n (fillTo ((counts f us).map (Value.int .i64)) (.int .i64 0) k) ∧ Below w.heap.size w wr) (fun _ i _ => n - (intOf i).toNat)
  case atStart => exact ⟨0, Nat.zero_le _, rfl, by rw [prevAt_zero], by rw [fillTo_zero, List.length_map, HL.out]; exact hown0, hbel0⟩
  case round =>
    clear hown0 hbel0
    obtain ⟨k, hk, rfl, rfl, hown, hbel⟩ := hrel
    by_cases hlt : k < n
    · obtain ⟨b, off, hx, hb, hsrc⟩ := hc.at HN.out hlt
      cases hx
      have HP := hide (prevAt_succ f us k)
      have hbd := HB.out k (by rw [HN.out]; exact hlt)
      have hcv := counts_at f us k (by rw [HN.out]; exact hlt)
      have hsrc0 := hsrc
      rw [← hbel.cell hb] at hsrc
      obtain ⟨hdst, hfz, hst⟩ := owns_step (by rw [List.length_map, HL.out]) hlt (getD_some (counts f us) k n HL.out hlt) hown
      rw [hcv] at hst
      clear hcv
      have hne : b < w.heap.size := hb
      generalize us.getD k 0 = u at hsrc hsrc0 hst hbd HP
      generalize prevAt f us k = p at hst hbd
      have hsrc2 : (wr.setCell ⟨w.heap.size, k, none⟩ (.int .i64 (u - p))).cell? ⟨b, off + k, none⟩ = some (.int .i64 u) := by
        rw [(hbel.setCell (p := ⟨w.heap.size, k, none⟩) (Nat.le_refl _) _).cell hb, hsrc0]
      clear hown hc hsrc0
      have HS := hide hst
      clear hst
      obtain ⟨hb1, hb2, hb3⟩ := hbd
      go_wp2
      go_roundw
      case rel => exact ⟨k + 1, by omega, by go_num, by rw [HP.out], HS.out, hbel.setCell (Nat.le_refl _) _⟩
      case measure => simp [intOf]; omega
    · obtain rfl : k = n := by omega
      go_wp2
      go_ret
      have hf : fillTo ((counts f us).map (Value.int .i64)) (.int .i64 0) k = (counts f us).map (Value.int .i64) := by rw [show k = ((counts f us).map (Value.int .i64)).length from by rw [List.length_map, HL.out], fillTo_all]
      rw [hf] at hown
      exact ⟨rfl, hown, hbel⟩

set_option maxHeartbeats 400000 in
theorem equalI64_same (a1 a2 : Option Addr) (c1 c2 : Nat) (xs : List Int) (w : World) (hlen : xs.length ≤ 1048576) (h1 : RowAt w a1 xs) (h2 : RowAt w a2 xs) :
    Calls Tryf.prog 14 #[.slice a1 xs.length c1, .slice a2 xs.length c2] w fun e w' => e = .returned (.bool true) ∧ ∃ q, w' = w.drewN q := by
  obtain ⟨n, hn⟩ : ∃ n, xs.length = n := ⟨_, rfl⟩
  have HN := hide hn
  rw [hn] at hlen ⊢
  clear hn
  have hd : ((n : Int) != (n : Int)) = false := by simp
  go_enter Tryf.func14, Tryf.ntmps14
  go_wp2
  go_loopw [5] (fun i wr => ∃ k q : Nat, k ≤ n ∧ i = .int .i64 k ∧ wr = w.drewN q) (fun i _ => n - (intOf i).toNat)
  case atStart => exact ⟨0, 0, Nat.zero_le _, rfl, rfl⟩
  case round =>
    obtain ⟨k, q, hk, rfl, rfl⟩ := hrel
    by_cases hlt : k < n
    · obtain ⟨b, off, hx, hb, g1⟩ := h1.at HN.out hlt
      obtain ⟨b', off', hx', hb', g2⟩ := h2.at HN.out hlt
      cases hx; cases hx'
      generalize xs.getD k 0 = x at g1 g2
      have hlt' : (k : Int) < (n : Int) := by omega
      have hxx : (x != x) = false := by simp
      clear h1 h2
      go_wp2
      go_quiet (fail)
      go_wp2
      go_roundw
      case rel => exact ⟨k + 1, q + nq, by omega, by go_num, rfl⟩
      case measure => simp [intOf]; omega
    · go_wp2
      go_ret
      exact ⟨rfl, _, rfl⟩

set_option maxHeartbeats 400000 in
theorem equalInt_same (a1 a2 : Option Addr) (c1 c2 : Nat) (xs : List Int) (w : World) (hlen : xs.length ≤ 1048576) (h1 : RowAt w a1 xs) (h2 : RowAt w a2 xs) :
    Calls Tryf.prog 15 #[.slice a1 xs.length c1, .slice a2 xs.length c2] w fun e w' => e = .returned (.bool true) ∧ ∃ q, w' = w.drewN q := by
  obtain ⟨n, hn⟩ : ∃ n, xs.length = n := ⟨_, rfl⟩
  have HN := hide hn
  rw [hn] at hlen ⊢
  clear hn
  have hd : ((n : Int) != (n : Int)) = false := by simp
  go_enter Tryf.func15, Tryf.ntmps15
  go_wp2
  go_loopw [5] (fun i wr => ∃ k q : Nat, k ≤ n ∧ i = .int .i64 k ∧ wr = w.drewN q) (fun i _ => n - (intOf i).toNat)
  case atStart => exact ⟨0, 0, Nat.zero_le _, rfl, rfl⟩
  case round =>
    obtain ⟨k, q, hk, rfl, rfl⟩ := hrel
    by_cases hlt : k < n
    · obtain ⟨b, off, hx, hb, g1⟩ := h1.at HN.out hlt
      obtain ⟨b', off', hx', hb', g2⟩ := h2.at HN.out hlt
      cases hx; cases hx'
      generalize xs.getD k 0 = x at g1 g2
      have hlt' : (k : Int) < (n : Int) := by omega
      have hxx : (x != x) = false := by simp
      clear h1 h2
      go_wp2
      go_quiet (fail)
      go_wp2
      go_roundw
      case rel => exact ⟨k + 1, q + nq, by omega, by go_num, rfl⟩
      case measure => simp [intOf]; omega
    · go_wp2
      go_ret
      exact ⟨rfl, _, rfl⟩
end Go.Proofs.Qxb6606004aFmt
