import Derived.Test.Qxb6605855aLaw6
import Derived.Test.Qxb6605855aOpen
import Derived.ProofKit
import Derived.OpenShut
namespace Go.Proofs.Qxb6605855a.fnCutTwiceIsCutOnceToTheShorter
open Go.ChangeShapes Go.WideShapes Go.ChangeAt Go.RowKit
set_option linter.unusedVariables false

theorem own : ownKnob Try.prog.godebug = none := by kernel_rfl
theorem laidOut : laidOutB Try.prog = true := by kernel_rfl

theorem u64_bounds {n : Int} (h : (Lit.int .u64 n).wf = true) : 0 ≤ n ∧ n < 18446744073709551616 := by
  have h1 : decide ((IntKind.u64).min ≤ n) = true ∧ decide (n ≤ (IntKind.u64).max) = true := by simpa [Lit.wf] using h
  have a : (IntKind.u64).min = 0 := by rfl
  have b : (IntKind.u64).max = 18446744073709551615 := by rfl
  rw [a, b] at h1
  have h2 := of_decide_eq_true h1.1
  have h3 := of_decide_eq_true h1.2
  omega

set_option maxRecDepth 100000 in
theorem lifted (os : Os) (started : os.Started) (H : Type) (enc : TypeId × Value → H) :
    ReturnsInHanded {} Try.checked os 6 .any (Rows.fnCutTwiceIsCutOnceToTheShorterSpec.pre6 enc Try.prog Try.f6 Rows.fnCutTwiceIsCutOnceToTheShorterRow.domain false) (Rows.fnCutTwiceIsCutOnceToTheShorterSpec.post enc Try.prog Try.f6 false true false false) := by
  refine returnsInHanded_of_change (C := Try.checked) own started (by kernel_rfl) Try.func6
    (ChangeSpec.witness6 (enc := enc) (C := Try.checked) false ⟨#[], #[.int .u64 0, .int .u64 0, .slice none 0 0, .slice none 0 0, .int .u64 0, .int .u64 0], []⟩ 8 (by kernel_rfl) (by kernel_rfl) (by kernel_rfl) (by kernel_rfl)) ?_
  intro W base args ds gs before hval0 hW hcnd _
  have hval : ∀ (j : Nat) t v, Try.f6.params[j]? = some t → args[j]? = some v → Value.okWide Try.prog W .any base t v := hval0
  have hW' := hW
  obtain ⟨p, q, hA0, hV, rfl, hfz, hnd⟩ := hW
  have hA : DataW.TrodAll enc Try.prog W 0 (fun _ => true) true Try.f6.params.toList args.toList ds p := hA0
  rw [Try.params6] at hA hval
  obtain ⟨v0, vs0, d0, ds0, p0, q0, hargs, rfl, rfl, h0, r0⟩ := trodAll_cons hA
  obtain ⟨v1, vs1, d1, ds1, p1, q1, rfl, rfl, rfl, h1, r1⟩ := trodAll_cons r0
  obtain ⟨v2, vs2, d2, ds2, p2, q2, rfl, rfl, rfl, h2, r2⟩ := trodAll_cons r1
  obtain ⟨v3, vs3, d3, ds3, p3, q3, rfl, rfl, rfl, h3, r3⟩ := trodAll_cons r2
  obtain ⟨v4, vs4, d4, ds4, p4, q4, rfl, rfl, rfl, h4, r4⟩ := trodAll_cons r3
  obtain ⟨v5, vs5, d5, ds5, p5, q5, rfl, rfl, rfl, h5, r5⟩ := trodAll_cons r4
  obtain ⟨rfl, rfl, rfl⟩ := trodAll_nil r5
  obtain rfl : args = #[v0, v1, v2, v3, v4, v5] := by cases args; simp_all
  obtain ⟨rfl, rfl⟩ := trodVars_none hV
  obtain ⟨x0, rfl, rfl, rfl, w0⟩ := open_int Try.underlying22 (hval 0 22 v0 rfl rfl) h0
  obtain ⟨x1, rfl, rfl, rfl, w1⟩ := open_int Try.underlying22 (hval 1 22 v1 rfl rfl) h1
  obtain ⟨a2, n2, c2, rfl⟩ := okWide_slice Try.underlying32 (hval 2 32 v2 rfl rfl)
  have k2 := h2
  have lt2 : ∀ x ∈ p2, x.block < W.heap.size := by obtain ⟨m, hm⟩ := k2; exact DataW.trod_lt m _ _ _ hm
  obtain ⟨xs2, hl2, hr2, hz2⟩ : ∃ xs : List (Int × Int), xs.length = n2 ∧ RunsAt (fun k => k < W.heap.size) W a2 xs ∧ (a2 = none → c2 = 0) := by
    obtain ⟨fuel, hf⟩ := h2
    exact open_runs hf
  subst hl2
  obtain ⟨a3, n3, c3, rfl⟩ := okWide_slice Try.underlying33 (hval 3 33 v3 rfl rfl)
  have k3 := h3
  have lt3 : ∀ x ∈ p3, x.block < W.heap.size := by obtain ⟨m, hm⟩ := k3; exact DataW.trod_lt m _ _ _ hm
  obtain ⟨xs3, hl3, hr3, hz3⟩ : ∃ xs : List Ent, xs.length = n3 ∧ EntsAt (fun k => k < W.heap.size) false W a3 xs ∧ (a3 = none → c3 = 0) := by
    obtain ⟨fuel, hf⟩ := h3
    exact open_ents hf
  subst hl3
  obtain ⟨x4, rfl, rfl, rfl, w4⟩ := open_int Try.underlying22 (hval 4 22 v4 rfl rfl) h4
  obtain ⟨x5, rfl, rfl, rfl, w5⟩ := open_int Try.underlying22 (hval 5 22 v5 rfl rfl) h5
  clear hA0 hval0
  refine (law6 x0 x1 x4 x5 a2 a3 c2 c3 xs2 xs3 W hr2 hr3 hz2 hz3 (u64_bounds w0).1 (u64_bounds w0).2 (u64_bounds w4).1 (u64_bounds w4).2 (u64_bounds w5).1 (u64_bounds w5).2).mono fun e W' ⟨he, bel⟩ => ?_
  subst he
  exact ⟨_, rfl, _, _, _, [], _, [], hW', trodAll_mk1 (shut_bool Try.underlying4 _), (trodAll_cons_mk (shut_int Try.underlying22 w0) (trodAll_cons_mk (shut_int Try.underlying22 w1) (trodAll_cons_mk (Below.trod laidOut (by kernel_rfl) (of_decide_eq_true (by kernel_rfl)) k2 bel lt2) (trodAll_cons_mk (Below.trod laidOut (by kernel_rfl) (of_decide_eq_true (by kernel_rfl)) k3 bel lt3) (trodAll_cons_mk (shut_int Try.underlying22 w4) (trodAll_cons_mk (shut_int Try.underlying22 w5) trodAll_mk0)))))), rfl, bel.frame _, fun h => by cases h⟩

theorem over : Rows.fnCutTwiceIsCutOnceToTheShorterRow.holds Try.pinned (OpenSpec.ofChange Rows.fnCutTwiceIsCutOnceToTheShorterSpec) :=
  OpenClaim.holds_of_wide 6 Try.f6 rfl rfl rfl rfl rfl rfl rfl ⟨rfl, rfl, rfl, rfl, rfl⟩ rfl rfl rfl rfl rfl (by kernel_rfl) Try.func6 (by kernel_rfl)
    (of_decide_eq_true (by kernel_rfl)) (by unfold Func.isWrapper; first | (rw [if_pos (by decide +kernel)]; kernel_rfl) | (rw [if_neg (by decide +kernel)]; exact ⟨rfl, rfl⟩))
    (fun os started H enc _ => lifted os started H enc)

/-- THE STATEMENT. -/
theorem proved : Rows.FnCutTwiceIsCutOnceToTheShorterSaid := over
end Go.Proofs.Qxb6605855a.fnCutTwiceIsCutOnceToTheShorter
