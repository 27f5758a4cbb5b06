import Derived.Test.Qxb6605855aRows
import Derived.WalkKit
import Derived.WalkSpells
import Derived.WalkSmall
import Derived.Lib.SliceRun
import Derived.Deep.QuietTactic
import Derived.BigQuiet
import Derived.Deep.LoopGhost
namespace Go.Proofs.Qxb6605855a
open Go.RowKit

theorem hide {p : Prop} (h : p) : Hid p := h
def cmpI (a b : Int) : Int := if a < b then -1 else if b < a then 1 else 0

theorem isNaN_any (x : Int) (w : World) : Calls Try.prog 50 #[.int .u64 x] w fun e w' => e = .returned (.bool false) ∧ w = w' := by
  have h : (x != x) = false := by simp
  go_enter Try.func50, Try.ntmps50
  go_wp2
  go_ret
  exact ⟨rfl, rfl⟩

theorem compare_any (x y : Int) (w : World) : Calls Try.prog 40 #[.int .u64 x, .int .u64 y] w fun e w' => e = .returned (.int .i64 (cmpI x y)) ∧ w = w' := by
  rcases Int.lt_trichotomy x y with h | h | h
  · rw [show cmpI x y = -1 by simp [cmpI, h]]
    go_enter Try.func40, Try.ntmps40
    go_wp2_with (go_at_call 50; refine (isNaN_any _ _).mono ?_; rintro e w' ⟨rfl, rfl⟩)
    go_ret
    exact ⟨rfl, rfl⟩
  · subst h
    rw [show cmpI x x = 0 by simp [cmpI]]
    have h1 : decide (x < x) = false := by simp
    go_enter Try.func40, Try.ntmps40
    go_wp2_with (go_at_call 50; refine (isNaN_any _ _).mono ?_; rintro e w' ⟨rfl, rfl⟩)
    go_ret
    exact ⟨rfl, rfl⟩
  · rw [show cmpI x y = 1 by simp [cmpI, h]; omega]
    go_enter Try.func40, Try.ntmps40
    go_wp2_with (go_at_call 50; refine (isNaN_any _ _).mono ?_; rintro e w' ⟨rfl, rfl⟩)
    go_ret
    exact ⟨rfl, rfl⟩

/-- compareFrom boxes its struct: one block more. -/
theorem compareFrom_any (f t p : Int) (w : World) : Calls Try.prog 29 #[.agg #[.int .u64 f, .int .u64 t], .int .u64 p] w fun e w' => e = .returned (.int .i64 (cmpI f p)) ∧ w' = w.alloc (.cells #[.int .u64 f, .int .u64 t] 25) := by
  generalize hc : cmpI f p = c
  have K := fun w => compare_any f p w
  rw [hc] at K
  have HK := hide K
  clear K hc
  go_enter Try.func29, Try.ntmps29
  go_wp2_with fail
  refine (HK.out _).mono ?_
  rintro e w' ⟨rfl, rfl⟩
  go_wp2
  go_ret
  exact ⟨rfl, rfl⟩

theorem newTermRun_any (f t : Int) (w : World) : Calls Try.prog 8 #[.int .u64 f, .int .u64 t] w fun e w' => e = .returned (.agg #[.int .u64 f, .int .u64 t]) ∧ w' = w.alloc (.cells #[.int .u64 f, .int .u64 t] 25) := by
  go_enter Try.func8, Try.ntmps8
  go_wp2
  exact bodyPost_ret (v := .agg #[.int .u64 f, .int .u64 t]) (by simp [results, Try.results8, go_sem]) rfl ⟨rfl, rfl⟩

theorem runFrom_any (f t : Int) (w : World) : Calls Try.prog 25 #[.agg #[.int .u64 f, .int .u64 t]] w fun e w' => e = .returned (.int .u64 f) ∧ w' = w.alloc (.cells #[.int .u64 f, .int .u64 t] 25) := by
  go_enter Try.func25, Try.ntmps25
  go_wp2
  go_ret
  exact ⟨rfl, rfl⟩
theorem runTerm_any (f t : Int) (w : World) : Calls Try.prog 26 #[.agg #[.int .u64 f, .int .u64 t]] w fun e w' => e = .returned (.int .u64 t) ∧ w' = w.alloc (.cells #[.int .u64 f, .int .u64 t] 25) := by
  go_enter Try.func26, Try.ntmps26
  go_wp2
  go_ret
  exact ⟨rfl, rfl⟩
end Go.Proofs.Qxb6605855a
