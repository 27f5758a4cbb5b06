import Derived.Test.Qxb6605855aWalkE
/-! The tests ahead of the law. -/
namespace Go.Proofs.Qxb6605855a
open Go.RowKit

/-- It returns a bool; a 'true' says p. -/
def Told (p : Prop) (e : Ending) : Prop := ∃ B, e = .returned (.bool B) ∧ (B = true → p)
theorem told_no {p : Prop} : Told p (.returned (.bool false)) := ⟨false, rfl, fun h => by cases h⟩
theorem told_yes {p : Prop} (h : p) : Told p (.returned (.bool true)) := ⟨true, rfl, fun _ => h⟩

set_option maxRecDepth 100000 in
theorem bytes11_any (M : Nat → Prop) (l r n1 : Int) (a b : Option Addr) (ca cb : Nat) (rs : List (Int × Int)) (es : List Ent) (w : World) (he : EntsAt M false w b es) :
    Calls Try.prog 11 #[.int .u64 l, .int .u64 r, .slice a rs.length ca, .slice b es.length cb, .int .u64 n1] w fun e w' => Told True e ∧ w = w' := by
  obtain ⟨n, hn⟩ : ∃ n, rs.length = n := ⟨_, rfl⟩
  obtain ⟨m, hm⟩ : ∃ m, es.length = m := ⟨_, rfl⟩
  have HM := hide hm
  have HE := hide he
  rw [hn, hm]
  clear hn hm he
  by_cases h1 : (n : Int) ≤ 1048576
  · by_cases h2 : (m : Int) ≤ 1048576
    · by_cases h3 : (n : Int) + (m : Int) ≤ 1048576
      · go_enter Try.func11, Try.ntmps11
        go_wp2
        go_loopw [11, 12] (fun s1 s2 wr => ∃ (j : Nat) (T : Int), j ≤ m ∧ s1 = .int .i64 T ∧ s2 = .int .i64 j ∧ 0 ≤ T ∧ T ≤ 1048576 ∧ w = wr) (fun _ i _ => m - (intOf i).toNat)
        case atStart => exact ⟨0, _, Nat.zero_le _, rfl, rfl, by omega, h3, rfl⟩
        case round =>
          obtain ⟨j, T, hj, rfl, rfl, hT0, hT1, rfl⟩ := hrel
          by_cases hlt : j < m
          · obtain ⟨bb, off, hx, _, pa, pc, hE, _⟩ := HE.out.at HM.out hlt
            cases hx
            have s4 := hE.c4
            generalize (es.getD j noEnt).bs.length = p at s4
            clear hE
            by_cases h4 : (p : Int) ≤ 1048576
            · by_cases h5 : T + (p : Int) ≤ 1048576
              · go_wp2
                go_roundw
                case rel => exact ⟨j + 1, T + p, by omega, by go_num, by go_num, by omega, h5, by trivial⟩
                case measure => simp [intOf]; omega
              · go_wp2
                go_ret
                first | exact ⟨told_no, rfl⟩ | exact ⟨told_yes trivial, rfl⟩
            · go_wp2
              go_ret
              first | exact ⟨told_no, rfl⟩ | exact ⟨told_yes trivial, rfl⟩
          · obtain rfl : j = m := by omega
            go_wp2
            go_ret
            first | exact ⟨told_no, rfl⟩ | exact ⟨told_yes trivial, rfl⟩
      · go_enter Try.func11, Try.ntmps11
        go_wp2
        go_ret
        first | exact ⟨told_no, rfl⟩ | exact ⟨told_yes trivial, rfl⟩
    · go_enter Try.func11, Try.ntmps11
      go_wp2
      go_ret
      first | exact ⟨told_no, rfl⟩ | exact ⟨told_yes trivial, rfl⟩
  · go_enter Try.func11, Try.ntmps11
    go_wp2
    go_ret
    first | exact ⟨told_no, rfl⟩ | exact ⟨told_yes trivial, rfl⟩

set_option maxRecDepth 100000 in
theorem bytes27_any (M : Nat → Prop) (l r n1 n2 : Int) (a b : Option Addr) (ca cb : Nat) (rs : List (Int × Int)) (es : List Ent) (w : World) (he : EntsAt M false w b es) :
    Calls Try.prog 27 #[.int .u64 l, .int .u64 r, .slice a rs.length ca, .slice b es.length cb, .int .u64 n1, .int .u64 n2] w fun e w' => Told True e ∧ w = w' := by
  obtain ⟨n, hn⟩ : ∃ n, rs.length = n := ⟨_, rfl⟩
  obtain ⟨m, hm⟩ : ∃ m, es.length = m := ⟨_, rfl⟩
  have HM := hide hm
  have HE := hide he
  rw [hn, hm]
  clear hn hm he
  by_cases h1 : (n : Int) ≤ 1048576
  · by_cases h2 : (m : Int) ≤ 1048576
    · by_cases h3 : (n : Int) + (m : Int) ≤ 1048576
      · go_enter Try.func27, Try.ntmps27
        go_wp2
        go_loopw [13, 14] (fun s1 s2 wr => ∃ (j : Nat) (T : Int), j ≤ m ∧ s1 = .int .i64 T ∧ s2 = .int .i64 j ∧ 0 ≤ T ∧ T ≤ 1048576 ∧ w = wr) (fun _ i _ => m - (intOf i).toNat)
        case atStart => exact ⟨0, _, Nat.zero_le _, rfl, rfl, by omega, h3, rfl⟩
        case round =>
          obtain ⟨j, T, hj, rfl, rfl, hT0, hT1, rfl⟩ := hrel
          by_cases hlt : j < m
          · obtain ⟨bb, off, hx, _, pa, pc, hE, _⟩ := HE.out.at HM.out hlt
            cases hx
            have s4 := hE.c4
            generalize (es.getD j noEnt).bs.length = p at s4
            clear hE
            by_cases h4 : (p : Int) ≤ 1048576
            · by_cases h5 : T + (p : Int) ≤ 1048576
              · go_wp2
                go_roundw
                case rel => exact ⟨j + 1, T + p, by omega, by go_num, by go_num, by omega, h5, by trivial⟩
                case measure => simp [intOf]; omega
              · go_wp2
                go_ret
                first | exact ⟨told_no, rfl⟩ | exact ⟨told_yes trivial, rfl⟩
            · go_wp2
              go_ret
              first | exact ⟨told_no, rfl⟩ | exact ⟨told_yes trivial, rfl⟩
          · obtain rfl : j = m := by omega
            go_wp2
            go_ret
            first | exact ⟨told_no, rfl⟩ | exact ⟨told_yes trivial, rfl⟩
      · go_enter Try.func27, Try.ntmps27
        go_wp2
        go_ret
        first | exact ⟨told_no, rfl⟩ | exact ⟨told_yes trivial, rfl⟩
    · go_enter Try.func27, Try.ntmps27
      go_wp2
      go_ret
      first | exact ⟨told_no, rfl⟩ | exact ⟨told_yes trivial, rfl⟩
  · go_enter Try.func27, Try.ntmps27
    go_wp2
    go_ret
    first | exact ⟨told_no, rfl⟩ | exact ⟨told_yes trivial, rfl⟩

/-- What a 'true' of cutSizeOK says. -/
def Fits (rs : List (Int × Int)) (es : List Ent) : Prop := rs.length ≤ 65536 ∧ es.length ≤ 65536 ∧ ∀ i, i < es.length → (es.getD i noEnt).bs.length ≤ 1048576

set_option maxRecDepth 100000 in
theorem sizeOK_any (M : Nat → Prop) (a b : Option Addr) (ca cb : Nat) (rs : List (Int × Int)) (es : List Ent) (w : World) (he : EntsAt M false w b es) :
    Calls Try.prog 12 #[.slice a rs.length ca, .slice b es.length cb] w fun e w' => Told (Fits rs es) e ∧ w = w' := by
  obtain ⟨n, hn⟩ : ∃ n, rs.length = n := ⟨_, rfl⟩
  obtain ⟨m, hm⟩ : ∃ m, es.length = m := ⟨_, rfl⟩
  have HN := hide hn
  have HM := hide hm
  have HE := hide he
  rw [hn, hm]
  clear hn hm he
  by_cases h1 : (n : Int) ≤ 65536
  · by_cases h2 : (m : Int) ≤ 65536
    · by_cases h3 : (n : Int) * 16 + (m : Int) * 80 ≤ 1048576
      · go_enter Try.func12, Try.ntmps12
        go_wp2
        go_loopw [5, 6] (fun s1 s2 wr => ∃ (j : Nat) (T : Int), j ≤ m ∧ s1 = .int .i64 T ∧ s2 = .int .i64 j ∧ 0 ≤ T ∧ T ≤ 1048576 ∧ Hid (∀ i, i < j → (es.getD i noEnt).bs.length ≤ 1048576) ∧ w = wr) (fun _ i _ => m - (intOf i).toNat)
        case atStart => exact ⟨0, _, Nat.zero_le _, rfl, rfl, by omega, h3, fun i hi => absurd hi (Nat.not_lt_zero _), rfl⟩
        case round =>
          obtain ⟨j, T, hj, rfl, rfl, hT0, hT1, HJ, rfl⟩ := hrel
          by_cases hlt : j < m
          · obtain ⟨bb, off, hx, _, pa, pc, hE, _⟩ := HE.out.at HM.out hlt
            cases hx
            have s4 := hE.c4
            obtain ⟨p, hp⟩ : ∃ p, (es.getD j noEnt).bs.length = p := ⟨_, rfl⟩
            rw [hp] at s4
            have HP := hide hp
            clear hE hp
            by_cases h5 : (p : Int) ≤ 1048576 - T
            · go_wp2
              go_roundw
              case rel =>
                refine ⟨j + 1, T + p, by omega, by go_num, by go_num, by omega, by omega, fun i hi => ?_, by trivial⟩
                by_cases e : i = j
                · subst e; have := HP.out; omega
                · exact HJ.out i (by omega)
              case measure => simp [intOf]; omega
            · go_wp2
              go_ret
              exact ⟨told_no, rfl⟩
          · obtain rfl : j = m := by omega
            go_wp2
            go_ret
            exact ⟨told_yes ⟨by rw [HN.out]; omega, by rw [HM.out]; omega, by rw [HM.out]; exact HJ.out⟩, rfl⟩
      · go_enter Try.func12, Try.ntmps12
        go_wp2
        go_ret
        exact ⟨told_no, rfl⟩
    · go_enter Try.func12, Try.ntmps12
      go_wp2
      go_ret
      exact ⟨told_no, rfl⟩
  · go_enter Try.func12, Try.ntmps12
    go_wp2
    go_ret
    exact ⟨told_no, rfl⟩

theorem asc_of_steps {rs : List (Int × Int)} (h : ∀ i, i + 1 < rs.length → (rs.getD i (0, 0)).1 ≤ (rs.getD (i + 1) (0, 0)).1) : asc rs := by
  intro i j hij
  induction j with
  | zero => intro _; obtain rfl : i = 0 := by omega
            exact Int.le_refl _
  | succ j ih =>
    intro hj
    by_cases e : i = j + 1
    · subst e; exact Int.le_refl _
    · exact Int.le_trans (ih (by omega) (by omega)) (h j hj)

set_option maxRecDepth 100000 in
theorem ascending_any (M : Nat → Prop) (a : Option Addr) (ca : Nat) (rs : List (Int × Int)) (w : World) (hlen : rs.length ≤ 65536) (hr : RunsAt M w a rs) :
    Calls Try.prog 13 #[.slice a rs.length ca] w fun e w' => Told (asc rs) e ∧ ∃ q, w' = w.drewN q := by
  obtain ⟨n, hn⟩ : ∃ n, rs.length = n := ⟨_, rfl⟩
  have HN := hide hn
  have HR := hide hr
  rw [hn] at hlen ⊢
  clear hn hr
  go_enter Try.func13, Try.ntmps13
  go_wp2
  go_loopw [3] (fun s1 wr => ∃ (j : Nat), 1 ≤ j ∧ s1 = .int .i64 j ∧ Hid (∀ i, i + 1 < j → i + 1 < n → (rs.getD i (0, 0)).1 ≤ (rs.getD (i + 1) (0, 0)).1) ∧ ∃ q, wr = w.drewN q) (fun i _ => n - (intOf i).toNat)
  case atStart => exact ⟨1, Nat.le_refl _, rfl, fun i hi h2 => by omega, 0, rfl⟩
  case round =>
    obtain ⟨j, hj1, rfl, HJ, q, rfl⟩ := hrel
    by_cases hlt : j < n
    · obtain ⟨b, off, hx, _, s0, _⟩ := HR.out.at HN.out hlt
      cases hx
      obtain ⟨b', off', hx', _, t0, _⟩ := HR.out.at HN.out (show j - 1 < n by omega)
      cases hx'
      obtain ⟨i, rfl⟩ : ∃ i, j = i + 1 := ⟨j - 1, by omega⟩
      rw [Nat.add_sub_cancel] at t0
      obtain ⟨x, hx⟩ : ∃ x, (rs.getD (i + 1) (0, 0)).1 = x := ⟨_, rfl⟩
      obtain ⟨y, hy⟩ : ∃ y, (rs.getD i (0, 0)).1 = y := ⟨_, rfl⟩
      rw [hx] at s0
      rw [hy] at t0
      have HX := hide hx
      have HY := hide hy
      clear hx hy
      obtain ⟨j, hj⟩ : ∃ j, i + 1 = j := ⟨_, rfl⟩
      have HIJ := hide hj
      have hsub : (j : Int) - 1 = (i : Int) := by omega
      have hin : (i : Int) < (n : Int) := by omega
      have hjn : (j : Int) < (n : Int) := by omega
      rw [hj] at s0 hlt hj1 ⊢
      rw [hj] at HJ
      clear hj
      have hj0 : (0 : Int) ≤ (j : Int) := by omega
      by_cases hxy : x < y
      · go_wp2
        go_quiet (fail)
        go_wp2
        go_ret
        exact ⟨told_no, q + nq, World.drewN_drewN _ _ _⟩
      · go_wp2
        go_quiet (fail)
        go_wp2
        go_roundw
        case rel =>
          refine ⟨j + 1, by omega, by go_num, fun k hk h2 => ?_, _, rfl⟩
          by_cases e : k = i
          · subst e; rw [HX.out, HY.out]; omega
          · exact HJ.out k (by have := HIJ.out; omega) h2
        case measure => simp [intOf]; omega
    · go_wp2
      go_ret
      exact ⟨told_yes (asc_of_steps (fun i hi => HJ.out i (by rw [HN.out] at hi; omega) (by rw [HN.out] at hi; exact hi))), _, rfl⟩
end Go.Proofs.Qxb6605855a
