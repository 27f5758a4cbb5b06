import Derived.Test.Qxb6606004aFmtWalkA
import Derived.Deep.QuietTactic
import Derived.BigQuiet
import Derived.WalkSmall
import Derived.Deep.LoopGhost
namespace Go.Proofs.Qxb6606004aFmt
open Go.RowKit

theorem closure_index (Bs Bt S b off n c i : Nat) (x t : Int) (W : World) (hi : (i : Int) < (n : Int)) (h1 : W.cell? ⟨Bs, 0, none⟩ = some (.pointer (some ⟨S, 0, none⟩)))
    (h2 : W.cell? ⟨S, 0, none⟩ = some (.slice (some ⟨b, off, none⟩) n c)) (h3 : W.cell? ⟨Bt, 0, none⟩ = some (.int .i64 t)) (h4 : W.cell? ⟨b, off + i, none⟩ = some (.int .i64 x)) :
    Calls Tryf.prog 37 #[.int .i64 i, .pointer (some ⟨Bs, 0, none⟩), .pointer (some ⟨Bt, 0, none⟩)] W fun e w' => e = .returned (.bool (decide (t ≤ x))) ∧ ∃ q, w' = W.drewN q := by
  go_enter Tryf.func37, Tryf.ntmps37
  go_wp2
  go_quiet (fail)
  go_wp2
  go_ret
  exact ⟨rfl, _, rfl⟩

set_option maxHeartbeats 400000 in
theorem search_index (Bs Bt n : Nat) (p : Nat → Bool) (w : World) (hsz : n ≤ 1048576)
    (hf : ∀ m i, i < n → Calls Tryf.prog 37 #[.int .i64 (i : Nat), .pointer (some ⟨Bs, 0, none⟩), .pointer (some ⟨Bt, 0, none⟩)] (w.drewN m) fun e w' => e = .returned (.bool (p i)) ∧ ∃ q, w' = (w.drewN m).drewN q)
    (hmono : ∀ a b, a ≤ b → b < n → p a = true → p b = true) :
    Calls Tryf.prog 36 #[.int .i64 n, .func (.func 37) #[] #[.pointer (some ⟨Bs, 0, none⟩), .pointer (some ⟨Bt, 0, none⟩)]] w fun e w' =>
      ∃ r : Nat, e = .returned (.int .i64 r) ∧ (r ≤ n ∧ (∀ t, t < r → p t = false) ∧ (∀ t, r ≤ t → t < n → p t = true)) ∧ ∃ q, w' = w.drewN q := by
  have HF : Hid _ := hf
  have M : Hid _ := hmono
  clear hf hmono
  go_enter Tryf.func36, Tryf.ntmps36
  go_wp2
  go_loopg [5, 6] n (fun kx s5 s6 wr => ∃ (lo hi q : Nat), s5 = .int .i64 lo ∧ s6 = .int .i64 hi ∧ lo ≤ hi ∧ hi ≤ n ∧ hi - lo ≤ kx ∧ wr = w.drewN q ∧
    Hid ((∀ t, t < lo → p t = false) ∧ (∀ t, hi ≤ t → t < n → p t = true)))
  case atStart => exact ⟨0, n, 0, rfl, rfl, Nat.zero_le _, Nat.le_refl _, by omega, rfl, (⟨fun t ht => absurd ht (Nat.not_lt_zero _), fun t h1 h2 => by omega⟩ : (∀ t, t < 0 → p t = false) ∧ (∀ t, n ≤ t → t < n → p t = true))⟩
  case round =>
    obtain ⟨lo, hi, q, rfl, rfl, hlh, hin, hg, rfl, I⟩ := hrel
    by_cases hlt : lo < hi
    · have hc := HF.out q ((lo + hi) / 2) (by omega)
      rw [show (((lo + hi) / 2 : Nat) : Int) = ((lo : Int) + (hi : Int)) / 2 by omega] at hc
      cases hp : p ((lo + hi) / 2) <;> rw [hp] at hc
      · have HP : Hid (p ((lo + hi) / 2) = false) := hp
        clear hp
        go_wp2_with (go_at_call 37; refine hc.mono ?_; rintro e w' ⟨rfl, nq, rfl⟩)
        go_roundg (hi - ((lo + hi) / 2 + 1))
        case measure => omega
        case rel =>
          have I2 : Hid ((∀ t, t < (lo + hi) / 2 + 1 → p t = false) ∧ (∀ t, hi ≤ t → t < n → p t = true)) := ⟨fun t ht => (by
            cases h : p t with
            | false => rfl
            | true => have := M.out t ((lo + hi) / 2) (by omega) (by omega) h; rw [HP.out] at this; cases this), I.out.2⟩
          exact ⟨(lo + hi) / 2 + 1, hi, q + nq, by rw [show ((lo : Int) + (hi : Int)) / 2 + 1 = (((lo + hi) / 2 + 1 : Nat) : Int) by omega], rfl, by omega, hin, Nat.le_refl _, rfl, I2⟩
      · have HP : Hid (p ((lo + hi) / 2) = true) := hp
        clear hp
        go_wp2_with (go_at_call 37; refine hc.mono ?_; rintro e w' ⟨rfl, nq, rfl⟩)
        go_roundg ((lo + hi) / 2 - lo)
        case measure => omega
        case rel =>
          have I2 : Hid ((∀ t, t < lo → p t = false) ∧ (∀ t, (lo + hi) / 2 ≤ t → t < n → p t = true)) := ⟨I.out.1, fun t ht htn => M.out ((lo + hi) / 2) t ht htn HP.out⟩
          exact ⟨lo, (lo + hi) / 2, q + nq, rfl, by rw [show ((lo : Int) + (hi : Int)) / 2 = (((lo + hi) / 2 : Nat) : Int) by omega], by omega, by omega, Nat.le_refl _, rfl, I2⟩
    · obtain rfl : hi = lo := by omega
      go_wp2
      go_ret
      exact ⟨hi, rfl, ⟨hin, I.out.1, I.out.2⟩, q, rfl⟩

set_option maxHeartbeats 400000 in
theorem method_index (S c : Nat) (a : Option Addr) (xs : List Int) (t : Int) (w : World) (hlen : xs.length ≤ 1048576) (hS : w.cell? ⟨S, 0, none⟩ = some (.slice a xs.length c)) (hrow : RowAt w a xs)
    (hs : nondec xs = true) :
    Calls Tryf.prog 33 #[.pointer (some ⟨S, 0, none⟩), .int .i64 t] w fun e w' => e = .returned (.int .i64 (((xs.countP (fun x => decide (x < t)) : Nat) : Int))) ∧ Below w.heap.size w w' := by
  obtain ⟨W0, hW0⟩ : ∃ W0, W0 = (w.alloc (.cells #[.pointer (some ⟨S, 0, none⟩)] 29)).alloc (.cells #[.int .i64 t] 52) := ⟨_, rfl⟩
  have hbel : Below w.heap.size w W0 := by rw [hW0]; exact ((Below.refl _ w).alloc (Nat.le_refl _) _).alloc (by simp) _
  have c1 : W0.cell? ⟨w.heap.size, 0, none⟩ = some (.pointer (some ⟨S, 0, none⟩)) := by rw [hW0, World.cell?_alloc2_first]; rfl
  have c2 : W0.cell? ⟨w.heap.size + 1, 0, none⟩ = some (.int .i64 t) := by rw [hW0, World.cell?_alloc2_new]; rfl
  have c3 : W0.cell? ⟨S, 0, none⟩ = some (.slice a xs.length c) := by rw [hbel.cell (block_lt hS), hS]
  have hrow' : RowAt W0 a xs := hrow.later rfl hbel
  have hcon := search_index w.heap.size (w.heap.size + 1) xs.length (fun i => decide (t ≤ xs.getD i 0)) W0 hlen (fun m i hi => by
      obtain ⟨b, off, rfl, _, hx⟩ := hrow'.at rfl hi
      exact closure_index w.heap.size (w.heap.size + 1) S b off xs.length c i _ t _ (by omega) (by simpa using c1) (by simpa using c3) (by simpa using c2) (by simpa using hx))
    (fun i j hij hj h => by
      have := nondec_le hs hij hj
      simp only [decide_eq_true_eq] at h ⊢
      omega)
  have hS' := hS
  have hSlt := block_lt hS
  obtain ⟨n, hn⟩ : ∃ n, n = xs.length := ⟨_, rfl⟩
  have HN : Hid (n = xs.length) := hn
  rw [← hn] at hcon hlen hS'
  clear hrow hrow' c1 c2 c3 hS hn
  go_enter Tryf.func33, Tryf.ntmps33
  go_wp2_with (go_at_call 36; rw [← hW0]; refine hcon.mono ?_; rintro e w' ⟨r, rfl, hr, q, rfl⟩; have hr1 := hr.1; have Hr := hide hr; clear hr)
  have hr := Hr.out
  have hcnt : xs.countP (fun x => decide (x < t)) = r := countP_at _ xs r (by rw [← HN.out]; exact hr.1) (fun i hi => by have := hr.2.1 i hi; simp only [decide_eq_false_iff_not, decide_eq_true_eq] at this ⊢; omega)
    (fun i h1 h2 => by have := hr.2.2 i h1 (by rw [HN.out]; exact h2); simp only [decide_eq_false_iff_not, decide_eq_true_eq] at this ⊢; omega)
  go_ret
  rw [hcnt, ← hW0]
  exact ⟨rfl, below_drewN hbel q⟩
end Go.Proofs.Qxb6606004aFmt
