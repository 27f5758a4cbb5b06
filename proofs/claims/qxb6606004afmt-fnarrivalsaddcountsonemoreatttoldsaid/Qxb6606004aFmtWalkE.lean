import Derived.Test.Qxb6606004aFmtWalkD
import Derived.Test.Qxb6606004aFmtState
namespace Go.Proofs.Qxb6606004aFmt
open Go.RowKit

set_option maxHeartbeats 400000 in
/-- (*Arrivals).before: at the k-th place. -/
theorem before_any (S c0 c1 : Nat) (a0 a1 : Option Addr) (xs us : List Int) (f t : Int) (w : World) (hlen : xs.length ≤ 1048576) (hlu : us.length ≤ 1048576)
    (h0 : w.cell? ⟨S, 0, none⟩ = some (.slice a0 xs.length c0)) (h1 : w.cell? ⟨S, 1, none⟩ = some (.slice a1 us.length c1)) (h2 : w.cell? ⟨S, 2, none⟩ = some (.int .i64 f))
    (r0 : RowAt w a0 xs) (r1 : RowAt w a1 us) (hs : nondec xs = true) (k : Nat) (hk : xs.countP (fun x => decide (x < t)) = k) (hku : k ≤ us.length) :
    Calls Tryf.prog 31 #[.pointer (some ⟨S, 0, none⟩), .int .i64 t] w fun e w' => e = .returned (.int .i64 (prevAt f us k)) ∧ Below w.heap.size w w' := by
  have K0 := hide (method_index S c0 a0 xs t w hlen h0 r0 hs)
  rw [hk] at K0
  have hSlt := block_lt h0
  clear hk h0 r0
  have H1 := hide h1
  have H2 := hide h2
  clear h1 h2
  rcases k with _ | m
  · rw [prevAt_zero]
    clear r1
    go_enter Tryf.func31, Tryf.ntmps31
    go_wp2_with fail
    refine K0.out.mono ?_
    rintro e w1 ⟨rfl, hb⟩
    have h2 := (hb.cell (p := ⟨S, 2, none⟩) hSlt).trans H2.out
    go_wp2
    go_ret
    exact ⟨rfl, hb⟩
  · rw [prevAt_succ]
    obtain ⟨b, off, rfl, hbl, hx⟩ := r1.at rfl (show m < us.length by omega)
    have hm : (m : Int) < (us.length : Int) := by omega
    generalize us.getD m 0 = u at hx ⊢
    generalize us.length = n at *
    clear r1
    have HX := hide hx
    clear hx
    go_enter Tryf.func31, Tryf.ntmps31
    go_wp2_with fail
    refine K0.out.mono ?_
    rintro e w1 ⟨rfl, hb⟩
    have h1 := (hb.cell (p := ⟨S, 1, none⟩) hSlt).trans H1.out
    have hx := (hb.cell (p := ⟨b, off + m, none⟩) hbl).trans HX.out
    go_wp2
    go_ret
    exact ⟨rfl, hb⟩
end Go.Proofs.Qxb6606004aFmt
