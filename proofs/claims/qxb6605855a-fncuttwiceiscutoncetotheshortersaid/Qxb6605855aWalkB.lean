import Derived.Test.Qxb6605855aWalkA
import Derived.Test.Qxb6605855aMem
namespace Go.Proofs.Qxb6605855a
open Go.RowKit

theorem Try.info56 : (Try.prog.info? 56).map (fun i => (i.zero, i.size, i.bytes)) = some (some (.agg #[.int .u64 0, .int .u64 0]), 2, 16) := by kernel_rfl
theorem Try.info25 : (Try.prog.info? 25).map (fun i => (i.zero, i.size, i.bytes)) = some (some (.agg #[.int .u64 0, .int .u64 0]), 2, 16) := by kernel_rfl
theorem Try.info54 : (Try.prog.info? 54).map (fun i => (i.zero, i.size, i.bytes)) = some (some (.agg #[.int .u64 0, .int .u64 0, .int .u64 0, .int .u64 0, .slice none 0 0, .int .u64 0, .int .u64 0, .int .u64 0]), 8, 80) := by kernel_rfl
theorem Try.info52 : (Try.prog.info? 52).map (fun i => (i.zero, i.size, i.bytes)) = some (some (.agg #[.int .u64 0, .int .u64 0, .int .u64 0, .int .u64 0, .slice none 0 0, .int .u64 0, .int .u64 0, .int .u64 0]), 8, 80) := by kernel_rfl
theorem Try.info5 : (Try.prog.info? 5).map (fun i => (i.zero, i.size, i.bytes)) = some (some (.int .u8 0), 1, 1) := by kernel_rfl

/-- What a row of runs holds at place o. -/
def valR (rs : List (Int × Int)) (o : Nat) : Value := if o % 2 = 0 then .int .u64 (rs.getD (o / 2) (0, 0)).1 else .int .u64 (rs.getD (o / 2) (0, 0)).2
theorem valR_0 (rs : List (Int × Int)) (k : Nat) : valR rs (k * 2) = .int .u64 (rs.getD k (0, 0)).1 := by
  unfold valR
  rw [if_pos (by omega), show k * 2 / 2 = k by omega]
theorem valR_1 (rs : List (Int × Int)) (k : Nat) : valR rs (k * 2 + 1) = .int .u64 (rs.getD k (0, 0)).2 := by
  unfold valR
  rw [if_neg (by omega), show (k * 2 + 1) / 2 = k by omega]

theorem RunsAt.filled {M : Nat → Prop} {w : World} {g : Nat} {rs : List (Int × Int)} (h : Fill w g (rs.length * 2) (valR rs) (rs.length * 2)) (hg : M g) : RunsAt M w (some ⟨g, 0, none⟩) rs :=
  .inr ⟨g, 0, rfl, hg, fun i hi => ⟨by rw [Nat.zero_add, h.at (by omega) (by omega), valR_0], by rw [Nat.zero_add, h.at (by omega) (by omega), valR_1]⟩⟩

theorem cloneRuns_nil (w : World) : Calls Try.prog 14 #[.slice none 0 0] w fun e w' => e = .returned (.slice none 0 0) ∧ w' = w := by
  have q32 := fun (w : World) (a : Option Addr) (n c n' c' : Nat) => Lib.run_eql_slice_nil (P := Try.prog) w _ _ a n c n' c' Try.underlying32
  go_enter Try.func14, Try.ntmps14
  go_wp2
  go_ret
  exact ⟨rfl, rfl⟩

set_option maxRecDepth 100000 in
set_option maxHeartbeats 800000 in
theorem cloneRuns_some (M : Nat → Prop) (x : Addr) (cap : Nat) (rs : List (Int × Int)) (w : World) (hlen : rs.length ≤ 65536) (hc : RunsAt M w (some x) rs) (hM : ∀ k, M k → k < w.heap.size) :
    Calls Try.prog 14 #[.slice (some x) rs.length cap] w fun e w' => e = .returned (.slice (some ⟨w.heap.size, 0, none⟩) rs.length rs.length) ∧ RunsAt (fun k => w.heap.size ≤ k ∧ k < w'.heap.size) w' (some ⟨w.heap.size, 0, none⟩) rs ∧ Below w.heap.size w w' := by
  obtain ⟨i0, hi, hz0, hz1, hz2⟩ := info_parts Try.info56
  have q32 := fun (w : World) (a : Option Addr) (n c n' c' : Nat) => Lib.run_eql_slice_nil (P := Try.prog) w _ _ a n c n' c' Try.underlying32
  obtain ⟨n, hn⟩ : ∃ n, rs.length = n := ⟨_, rfl⟩
  have HN := hide hn
  have HC := hide hc
  have HM := hide hM
  rw [hn] at hlen ⊢
  clear hn hc hM
  go_enter Try.func14, Try.ntmps14
  go_wp2_with (at_make; refine wpList_make_full _ rfl _ _ 32 rfl w.heap.size 56 i0 (.agg #[.int .u64 0, .int .u64 0]) 2 Try.underlying32 hi hz0 hz1 _ _ _ _ n rfl rfl (by omega) (by omega) ?b2 ?b3 (Nat.le_refl _) ?_)
  case b2 => rw [hz2]; omega
  case b3 => unfold maxLen; omega
  intro w0 hown0 hgrow0
  have HF : Hid (Fill w0 w.heap.size (n * 2) (valR rs) (0 * 2)) := Fill.start hown0
  have HB0 : Hid (Below w.heap.size w w0) := (Below.refl _ _).grown hgrow0 (Nat.le_refl _) (fun k h => by cases h)
  have HS0 : Hid (w.heap.size < w0.heap.size) := by
    rcases hown0.2 with ⟨h, _⟩ | ⟨g, cap, cur, hv, _, hg, _⟩
    · cases h
    · cases hv
      rcases Nat.lt_or_ge w.heap.size w0.heap.size with h | h
      · exact h
      · rw [Array.getElem?_eq_none h] at hg; cases hg
  clear hown0 hgrow0
  go_wp2
  go_loopw [4] (fun i wr => ∃ k : Nat, k ≤ n ∧ i = .int .i64 k ∧ Hid (Fill wr w.heap.size (n * 2) (valR rs) (k * 2) ∧ Below w.heap.size w wr ∧ w.heap.size < wr.heap.size)) (fun i _ => n - (intOf i).toNat)
  case atStart => exact ⟨0, Nat.zero_le _, rfl, And.intro HF.out (And.intro HB0.out HS0.out)⟩
  case round =>
    clear HF HB0 HS0
    obtain ⟨k, hk, rfl, I⟩ := hrel
    by_cases hlt : k < n
    · obtain ⟨b, off, hx, hb, s0, s1⟩ := HC.out.at HN.out hlt
      cases hx
      have hbl := HM.out b hb
      rw [← I.out.2.1.cell (p := ⟨b, off + k * 2, none⟩) hbl] at s0
      rw [← I.out.2.1.cell (p := ⟨b, off + k * 2 + 1, none⟩) hbl] at s1
      obtain ⟨z0, u0, d0, _⟩ := I.out.1 (k * 2) (by omega)
      obtain ⟨z1, u1, d1, _⟩ := I.out.1 (k * 2 + 1) (by omega)
      have hv0 := hide (valR_0 rs k)
      have hv1 := hide (valR_1 rs k)
      generalize (rs.getD k (0, 0)).1 = f at s0 hv0
      generalize (rs.getD k (0, 0)).2 = t at s1 hv1
      have HI : Hid (Fill ((wr.setCell ⟨w.heap.size, k * 2, none⟩ (.int .u64 f)).setCell ⟨w.heap.size, k * 2 + 1, none⟩ (.int .u64 t)) w.heap.size (n * 2) (valR rs) ((k + 1) * 2)) := by
        have := (I.out.1.put hv0.out.symm).put hv1.out.symm
        rw [show (k + 1) * 2 = k * 2 + 1 + 1 by omega]
        exact this
      go_wp2
      go_roundw
      case rel => exact ⟨k + 1, by omega, by go_num, And.intro HI.out (And.intro ((I.out.2.1.setCell (Nat.le_refl _) _).setCell (Nat.le_refl _) _) (by simpa using I.out.2.2))⟩
      case measure => simp [intOf]; omega
    · obtain rfl : k = n := by omega
      go_wp2
      go_ret
      refine ⟨rfl, RunsAt.filled (by rw [HN.out]; exact I.out.1) ⟨Nat.le_refl _, I.out.2.2⟩, I.out.2.1⟩

theorem cloneRuns_any (M : Nat → Prop) (a : Option Addr) (cap : Nat) (rs : List (Int × Int)) (w : World) (hlen : rs.length ≤ 65536) (hc : RunsAt M w a rs) (hM : ∀ k, M k → k < w.heap.size) (h0 : a = none → cap = 0) :
    Calls Try.prog 14 #[.slice a rs.length cap] w fun e w' => ∃ a' c', e = .returned (.slice a' rs.length c') ∧ RunsAt (fun k => w.heap.size ≤ k ∧ k < w'.heap.size) w' a' rs ∧ Below w.heap.size w w' := by
  rcases a with _ | x
  · obtain rfl : rs = [] := by rcases hc with h | ⟨b, off, h, _⟩; exact h; cases h
    rw [h0 rfl]
    refine (cloneRuns_nil w).mono ?_
    rintro e w' ⟨rfl, rfl⟩
    exact ⟨none, 0, rfl, .inl rfl, Below.refl _ _⟩
  · refine (cloneRuns_some M x cap rs w hlen hc hM).mono ?_
    rintro e w' ⟨rfl, h1, h2⟩
    exact ⟨_, _, rfl, h1, h2⟩
end Go.Proofs.Qxb6605855a
