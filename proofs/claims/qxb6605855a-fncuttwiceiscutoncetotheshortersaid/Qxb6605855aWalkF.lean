import Derived.Test.Qxb6605855aLog
import Derived.Test.Qxb6605855aWalkD
/-! The small getters. -/
namespace Go.Proofs.Qxb6605855a
open Go.RowKit

theorem logLength_any (S : Nat) (L r K : Int) (vT vR : Value) (w : World) (h : LogAt S L r vT vR K w) : Calls Try.prog 18 #[.pointer (some ⟨S, 0, none⟩)] w fun e w' => e = .returned (.int .u64 L) ∧ w = w' := by
  have hc := h.c0
  clear h
  go_enter Try.func18, Try.ntmps18
  go_wp2
  go_ret
  exact ⟨rfl, rfl⟩
theorem logRemoved_any (S : Nat) (L r K : Int) (vT vR : Value) (w : World) (h : LogAt S L r vT vR K w) : Calls Try.prog 19 #[.pointer (some ⟨S, 0, none⟩)] w fun e w' => e = .returned (.int .u64 r) ∧ w = w' := by
  have hc := h.c1
  clear h
  go_enter Try.func19, Try.ntmps19
  go_wp2
  go_ret
  exact ⟨rfl, rfl⟩
theorem logRecent_any (S : Nat) (L r K : Int) (vT : Value) (a : Option Addr) (n c : Nat) (w : World) (h : LogAt S L r vT (.slice a n c) K w) : Calls Try.prog 20 #[.pointer (some ⟨S, 0, none⟩)] w fun e w' => e = .returned (.slice a n c) ∧ w = w' := by
  have hc := h.c3
  clear h
  go_enter Try.func20, Try.ntmps20
  go_wp2
  go_ret
  exact ⟨rfl, rfl⟩
theorem logRecentCap_any (S : Nat) (L r K : Int) (vT : Value) (a : Option Addr) (n c : Nat) (w : World) (h : LogAt S L r vT (.slice a n c) K w) : Calls Try.prog 21 #[.pointer (some ⟨S, 0, none⟩)] w fun e w' => e = .returned (.int .i64 c) ∧ w = w' := by
  have hc := h.c3
  clear h
  go_enter Try.func21, Try.ntmps21
  go_wp2
  go_ret
  exact ⟨rfl, rfl⟩
theorem logKept_any (S : Nat) (L r K : Int) (vT vR : Value) (w : World) (h : LogAt S L r vT vR K w) : Calls Try.prog 23 #[.pointer (some ⟨S, 0, none⟩)] w fun e w' => e = .returned (.int .i64 K) ∧ w = w' := by
  have hc := h.c4
  clear h
  go_enter Try.func23, Try.ntmps23
  go_wp2
  go_ret
  exact ⟨rfl, rfl⟩
theorem logTerms_any (S : Nat) (L r K : Int) (vR : Value) (a : Option Addr) (n c : Nat) (w : World) (h : LogAt S L r (.slice a n c) vR K w) : Calls Try.prog 24 #[.pointer (some ⟨S, 0, none⟩)] w fun e w' => e = .returned (.slice a n c) ∧ w = w' := by
  have hc := h.c2
  clear h
  go_enter Try.func24, Try.ntmps24
  go_wp2
  go_ret
  exact ⟨rfl, rfl⟩

theorem entryKind_any (e : Ent) (pa : Option Addr) (L pc : Nat) (w : World) :
    Calls Try.prog 35 #[.agg #[.int .u64 e.p, .int .u64 e.m, .int .u64 e.i, .int .u64 e.s, .slice pa L pc, .int .u64 e.k, .int .u64 e.t, .int .u64 e.v]] w fun r w' =>
      r = .returned (.int .u64 e.k) ∧ w' = w.alloc (.cells #[.int .u64 e.p, .int .u64 e.m, .int .u64 e.i, .int .u64 e.s, .slice pa L pc, .int .u64 e.k, .int .u64 e.t, .int .u64 e.v] 52) := by
  go_enter Try.func35, Try.ntmps35
  go_wp2
  go_ret
  exact ⟨rfl, rfl⟩
theorem entryTerm_any (e : Ent) (pa : Option Addr) (L pc : Nat) (w : World) :
    Calls Try.prog 36 #[.agg #[.int .u64 e.p, .int .u64 e.m, .int .u64 e.i, .int .u64 e.s, .slice pa L pc, .int .u64 e.k, .int .u64 e.t, .int .u64 e.v]] w fun r w' =>
      r = .returned (.int .u64 e.t) ∧ w' = w.alloc (.cells #[.int .u64 e.p, .int .u64 e.m, .int .u64 e.i, .int .u64 e.s, .slice pa L pc, .int .u64 e.k, .int .u64 e.t, .int .u64 e.v] 52) := by
  go_enter Try.func36, Try.ntmps36
  go_wp2
  go_ret
  exact ⟨rfl, rfl⟩
theorem entryVersion_any (e : Ent) (pa : Option Addr) (L pc : Nat) (w : World) :
    Calls Try.prog 37 #[.agg #[.int .u64 e.p, .int .u64 e.m, .int .u64 e.i, .int .u64 e.s, .slice pa L pc, .int .u64 e.k, .int .u64 e.t, .int .u64 e.v]] w fun r w' =>
      r = .returned (.int .u64 e.v) ∧ w' = w.alloc (.cells #[.int .u64 e.p, .int .u64 e.m, .int .u64 e.i, .int .u64 e.s, .slice pa L pc, .int .u64 e.k, .int .u64 e.t, .int .u64 e.v] 52) := by
  go_enter Try.func37, Try.ntmps37
  go_wp2
  go_ret
  exact ⟨rfl, rfl⟩

set_option maxRecDepth 100000 in
/-- Two rows of the same bytes. -/
theorem sameBytes_any (M N : Nat → Prop) (a b : Option Addr) (ca cb : Nat) (bs : List Int) (w : World) (hlen : bs.length ≤ 1048576) (ha : BytesAt M w a bs) (hb : BytesAt N w b bs) :
    Calls Try.prog 38 #[.slice a bs.length ca, .slice b bs.length cb] w fun e w' => e = .returned (.bool true) ∧ ∃ q, w' = w.drewN q := by
  obtain ⟨n, hn⟩ : ∃ n, bs.length = n := ⟨_, rfl⟩
  have HA := hide ha
  have HB := hide hb
  have HN := hide hn
  rw [hn] at hlen ⊢
  clear ha hb hn
  have hd : ((n : Int) != (n : Int)) = false := by simp
  go_enter Try.func38, Try.ntmps38
  go_wp2
  go_loopw [5] (fun s10 wr => ∃ j : Nat, j ≤ n ∧ s10 = .int .i64 j ∧ ∃ q, wr = w.drewN q) (fun i _ => n - (intOf i).toNat)
  case atStart => exact ⟨0, Nat.zero_le _, rfl, 0, rfl⟩
  case round =>
    obtain ⟨j, hj, rfl, q, rfl⟩ := hrel
    by_cases hlt : j < n
    · obtain ⟨ba, oa, rfl, _, ea⟩ := HA.out.at HN.out hlt
      obtain ⟨bb, ob, rfl, _, eb⟩ := HB.out.at HN.out hlt
      generalize bs.getD j 0 = x at ea eb
      have hxx : (x != x) = false := by simp
      have hlt' : (j : Int) < (n : Int) := by omega
      go_wp2
      go_quiet (fail)
      all_goals go_wp2
      all_goals
        go_roundw
        case rel => exact ⟨j + 1, by omega, by go_num, _, rfl⟩
        case measure => simp [intOf]; omega
    · obtain rfl : j = n := by omega
      go_wp2
      go_ret
      exact ⟨rfl, _, rfl⟩
end Go.Proofs.Qxb6605855a
