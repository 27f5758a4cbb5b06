import Derived.Test.Qxb6606004aFmtHalves
import Derived.Test.Qxb6606004aFmtWalkE
import Derived.Deep.RegionLaw
import Derived.Deep.DrawnRows
namespace Go.Proofs.Qxb6606004aFmt
open Go.RowKit
attribute [local go_sem] Go.wp_at_zero Go.wp_at_succ

set_option maxHeartbeats 400000 in
/-- (*Arrivals).Add at the last recorded time: one more in the last count. -/
theorem add_same (S g0 g1 m c0 c1 : Nat) (t u : Int) (w : World) (hlen : m + 1 ≤ 1048576) (h0 : w.cell? ⟨S, 0, none⟩ = some (.slice (some ⟨g0, 0, none⟩) (m + 1) c0)) (h1 : w.cell? ⟨S, 1, none⟩ = some (.slice (some ⟨g1, 0, none⟩) (m + 1) c1))
    (ht : w.cell? ⟨g0, m, none⟩ = some (.int .i64 t)) (hu : w.cell? ⟨g1, m, none⟩ = some (.int .i64 u)) (hz : w.frozen? ⟨g1, m, none⟩ = false) (hu0 : 0 ≤ u) (hu1 : u < 9223372036854775807) :
    Calls Tryf.prog 26 #[.pointer (some ⟨S, 0, none⟩), .int .i64 t] w fun e w' => e = .returned (.tuple #[]) ∧ w' = w.setCell ⟨g1, m, none⟩ (.int .i64 (u + 1)) := by
  have htt : (t == t) = true := by simp
  have htl : decide (t < t) = false := by simp
  go_enter Tryf.func26, Tryf.ntmps26
  go_wp2
  refine bodyPost_ret (results_none rfl _ _ _) rfl ?_
  exact ⟨rfl, rfl⟩


set_option maxHeartbeats 1600000 in
/-- (*Arrivals).Add at a time of its own: both rows appended to. -/
theorem add_new (B S c0 c1 n : Nat) (a0 a1 : Option Addr) (xs us : List Int) (f t : Int) (w : World) (hA : ArrAt B S (.slice a0 n c0) (.slice a1 n c1) xs us f w) (hxn : xs.length = n) (hun : us.length = n) (hlen : n ≤ 131072)
    (hnd : nondec (xs ++ [t]) = true) (hlt : ∀ i, i < n → xs.getD i 0 < t) (hp0 : 0 ≤ prevAt f us n) (hp1 : prevAt f us n < 9223372036854775807) :
    Calls Tryf.prog 26 #[.pointer (some ⟨S, 0, none⟩), .int .i64 t] w fun e w' => e = .returned (.tuple #[]) ∧ ∃ a0' c0' a1' c1', ArrAt B S (.slice a0' (n + 1) c0') (.slice a1' (n + 1) c1') (xs ++ [t]) (us ++ [prevAt f us n + 1]) f w' ∧ Touch S (.slice a0 n c0) (.slice a1 n c1) w w' := by
  obtain ⟨i2, hi2, hz20, hz21, hz22⟩ := info_parts Tryf.info52
  obtain ⟨i3, hi3, hz30, hz31, hz32⟩ := info_parts Tryf.info3
  have HA := hide hA
  have h0 := hA.c0
  have hSlt := hA.sLt
  have hBS := hA.sB
  have R0 : Hid (w.ownsRow B 52 1 (.slice a0 n c0) n (xs.map (Value.int .i64))) := by have := hA.r0; rw [hxn] at this; exact this
  have HN := hide (⟨hxn, hun⟩ : xs.length = n ∧ us.length = n)
  have HND := hide hnd
  have HC : Hid ((xs ++ [t]).countP (fun x => decide (x < t)) = n) := by
    show _ = _
    rw [List.countP_append, countP_at _ xs n (by omega) (fun i hi => by simpa using hlt i hi) (fun i h1 h2 => by omega)]
    simp
  have hlast : (n : Int) ≤ 0 ∨ ∃ g0 x, (0 < (n : Int)) ∧ a0 = some ⟨g0, 0, none⟩ ∧ w.cell? ⟨g0, n - 1, none⟩ = some (.int .i64 x) ∧ x < t := by
    rcases n with _ | m
    · exact .inl (by omega)
    · obtain ⟨b, off, rfl, _, hx⟩ := (ownsRow_row hxn R0.out).at hxn (Nat.lt_succ_self m)
      obtain ⟨_, _, hv, _, hs⟩ := ownsRow_form R0.out
      simp at hv
      obtain ⟨rfl, _⟩ := hv
      obtain ⟨g, hg⟩ := hs _ rfl
      cases hg
      exact .inr ⟨b, _, by omega, rfl, by simpa using hx, hlt m (Nat.lt_succ_self m)⟩
  have KB : Hid (∀ (g cap : Nat) (W : World), ArrAt B S (.slice (some ⟨g, 0, none⟩) (n + 1) cap) (.slice a1 n c1) (xs ++ [t]) us f W →
      Calls Tryf.prog 31 #[.pointer (some ⟨S, 0, none⟩), .int .i64 t] W fun e w' => e = .returned (.int .i64 (prevAt f us n)) ∧ Below W.heap.size W w') := fun g cap W h => by
    have e0 : (xs ++ [t]).length = n + 1 := by simp; exact hxn
    have r0 := h.r0
    have r1 := h.r1
    rw [e0] at r0
    rw [hun] at r1
    have := before_any S cap c1 (some ⟨g, 0, none⟩) a1 (xs ++ [t]) us f t W (by omega) (by omega) (by rw [e0]; exact h.c0) (by rw [hun]; exact h.c1) h.c2 (ownsRow_row e0 r0) (ownsRow_row hun r1) HND.out n HC.out (by omega)
    exact this
  clear hA hxn hun hnd hlt HC HND
  generalize prevAt f us n = P at KB hp0 hp1 ⊢
  rcases hlast with hn0 | ⟨g0, x, hn0, rfl, hx, hxt⟩
  all_goals
    go_enter Tryf.func26, Tryf.ntmps26
    go_wp2_with (at_builtin; refine wpList_append_lies _ rfl _ _ 47 rfl B 52 i2 (.int .i64 0) 1 8 Tryf.underlying47 hi2 hz20 hz21 hz22 rfl (by omega) _ n _ (by rfl) (R0.out.alloc _) ⟨w.heap.size, 0, none⟩ 1 1 [.int .i64 t] (by rfl) (by rfl) (cell_one_new _ _ _) (by simp [Value.oneCell']) (by omega) (by unfold maxLen; omega) (by omega) (by simp; omega) (w.heap.size + 1) (by simp) ?_; intro g cap w1 hown1 hgrow hat hlt; obtain ⟨hA2, hT2, hc0, hf0⟩ := half0 HA.out HN.out.1 hown1 hgrow hat; have HA2 := hide hA2; have HT2 := hide hT2; clear hown1 hgrow hat hA2 hT2)
    obtain ⟨W2, hW2⟩ : ∃ W2, W2 = w1.setCell ⟨S, 0, none⟩ (.slice (some ⟨g, 0, none⟩) (n + 1) cap) := ⟨_, rfl⟩
    rw [← hW2] at HA2 HT2 ⊢
    clear hW2 hc0 hf0 h0 hlt
    have hc1 := HA2.out.c1
    have hwp : IntKind.i64.wrap (P + 1) = P + 1 := IntWalk.i64_in _ (by omega)
    have hS2 := HA2.out.sLt
    go_region_law (first
        | (refine step_append_lies _ (by rfl) _ _ _ (by rfl) B 3 i3 _ 1 8 Tryf.underlying23 hi3 hz30 hz31 hz32 rfl (by omega) (.slice a1 n c1) n (us.map (Value.int .i64)) (by rfl) (hR3.out.alloc _) ⟨w3.heap.size, 0, none⟩ 1 1 [.int .i64 (P + 1)] (by rfl) (by rfl) (World.news_of_block (cs := #[.int .i64 (P + 1)]) (t := 3) (fr := (0, 0)) (heap_alloc_new w3 _)) (by simp [Value.oneCell']) (by omega) (by unfold maxLen; omega) (by omega) (by simp; omega) (w3.heap.size + 1) (by simp) ?_; intro g1 cap1 w4 hown1 hgrow hat hlt; obtain ⟨hA4, hT4, hc14, hf14⟩ := half1 HA3.out HN.out.2 hown1 hgrow hat; have HA4 := hide hA4; have HT4 := hide hT4; clear hown1 hgrow hat hA4 hT4)
        | (go_simp; go_at_call 31; refine (KB.out g cap _ ?_).mono ?_; (exact HA2.out.later (Below.refl _ _).drew); rintro e w3 ⟨rfl, hb3⟩; have HB3 : Hid (Below W2.heap.size W2 w3) := (Below.refl _ W2).drew.trans hb3; clear hb3; have HA3 := hide (HA2.out.later HB3.out); have hc13 := HA3.out.c1; have hS3 := HA3.out.sLt; have hR3 : Hid (w3.ownsRow B 3 1 (.slice a1 n c1) n (us.map (Value.int .i64))) := by { have := HA3.out.r1; rw [HN.out.2] at this; exact this }))
    all_goals
      go_end0
      exact ⟨rfl, some ⟨g, 0, none⟩, cap, some ⟨g1, 0, none⟩, cap1, HA4.out, HT2.out.both HB3.out HT4.out⟩
end Go.Proofs.Qxb6606004aFmt
