import Derived.Test.Qxb6605855aCut
import Derived.LoopN
namespace Go.Proofs.Qxb6605855a
open Go.RowKit
attribute [local go_sem] Go.wp_at_zero Go.wp_at_succ

set_option maxRecDepth 100000 in
set_option maxHeartbeats 1600000 in
/-- To its whole length: all stay. -/
theorem cut_whole (M : Nat → Prop) (S : Nat) (L r n : Int) (at_ ar : Option Addr) (ct : Nat) (rs : List (Int × Int)) (es : List Ent) (w : World) (h : CutPre M S L r n at_ ar ct rs es w) (hn : n = L) :
    Calls Try.prog 34 #[.pointer (some ⟨S, 0, none⟩), .int .u64 n] w fun e w' => e = .returned (.tuple #[]) ∧ CutPost M S L r n at_ ct rs es w w' := by
  have K0 := hide (base_any S es.length es.length L ar w h.log.c0 h.log.c3 h.hl2 h.eL h.LL)
  have KS : Hid (∀ w1, RunsAt M w1 at_ rs → (∀ k, M k → k < w1.heap.size) → Calls Try.prog 49 #[.slice at_ rs.length ct, .int .u64 (n + 1), .func (.func 29) #[] #[]] w1 fun e w' => ∃ (r : Nat) (B : Bool), e = .returned (.tuple #[.int .i64 r, .bool B]) ∧ (r ≤ rs.length ∧ (∀ i, i < r → (rs.getD i (0, 0)).1 < n + 1) ∧ (∀ i, r ≤ i → i < rs.length → n + 1 ≤ (rs.getD i (0, 0)).1)) ∧ Below w1.heap.size w1 w') :=
    fun w1 hr hM => search_any M at_ ct rs (n + 1) w1 h.hl1 hr hM h.up
  have HP := hide h
  have hS := h.log.lt
  have hnn := h.nn
  have hn0 := h.n0
  have hct := h.hct
  have hl1 := h.hl1
  have hl2 := h.hl2
  have hLL := h.LL
  clear h
  obtain ⟨m, hm⟩ : ∃ m, rs.length = m := ⟨_, rfl⟩
  have HMM := hide hm
  rw [hm] at KS hct hl1
  clear hm
  obtain ⟨ne, hne⟩ : ∃ ne, es.length = ne := ⟨_, rfl⟩
  have HNE := hide hne
  rw [hne] at K0 hl2
  have hkk : n - (L - (ne : Int)) = (ne : Int) := by omega
  have HNL := hide hn
  clear hn
  clear hne
  rcases ar with _ | x
  · have hz : ne = 0 := by
      rcases HP.out.ents with h | ⟨_, _, h, _⟩
      · rw [← HNE.out, h]; rfl
      · cases h
    subst hz
    rw [show L - ((0 : Nat) : Int) = L by omega] at K0
    have hk0 : n - L = 0 := by have := HNL.out; omega
    clear hkk
    go_enter Try.func34, Try.ntmps34
    go_wp2_with fail
    refine K0.out.mono ?_
    rintro e w1 ⟨rfl, q, rfl⟩
    have g : Hid (LogAt S L r (.slice at_ m ct) (.slice none 0 0) (keptTo es 0 : Nat) (w.drewN q)) := by
      have := HP.out.log
      rw [HMM.out, HNE.out] at this
      exact this.later rfl
    have c3 := g.out.c3
    have c4 := g.out.c4
    have c0 := g.out.c0
    have c2 := g.out.c2
    have z0 := g.out.z 0
    have z2 := g.out.z 2
    have z3 := g.out.z 3
    have z4 := g.out.z 4
    have hle : L ≤ n := by have := HNL.out; omega
    go_wp2_with fail
    refine wp_loop_rounds 1 ?_
    rw [rounds_succ]
    go_wp2_with fail
    refine (clip_none _).mono ?_
    rintro e w1 ⟨rfl, rfl⟩
    go_wp2_with fail
    obtain ⟨W, hW⟩ : ∃ W, W = ((w.drewN q).setCell ⟨S, 3, none⟩ (.slice none 0 0)).setCell ⟨S, 0, none⟩ (.int .u64 n) := ⟨_, rfl⟩
    have GW : Hid (LogAt S n r (.slice at_ m ct) (.slice none 0 0) (keptTo es 0 : Nat) W) := by
      have h := (g.out.put3 (.slice none 0 0)).put0 n
      rw [← hW] at h
      exact h
    have OW : Hid (Only S w W) := by
      have h := (((Only.refl S w).drewN q).put 3 (.slice none 0 0)).put 0 (.int .u64 n)
      rw [← hW] at h
      exact h
    rw [← hW]
    clear hW c3 c4 c0 c2 z0 z2 z3 z4 g
    refine (KS.out W (HP.out.runs.later (OW.out.same (fun k hk => (HP.out.hM k hk).2))) (fun k hk => Nat.lt_of_lt_of_le (HP.out.hM k hk).1 OW.out.size)).mono ?_
    rintro e w2 ⟨i, B, rfl, hi, hb2⟩
    have HI := hide hi
    have hi1 : i ≤ m := hi.1
    have G2 := hide (GW.out.below hb2)
    have O2 := hide (OW.out.trans (Only.of_below hb2))
    have c2 := G2.out.c2
    have z2 := G2.out.z 2
    clear hi hb2
    have hit : (i : Int) ≤ (ct : Int) := by omega
    go_wp2
    go_end0
    refine ⟨rfl, cut_end (k := 0) (a' := none) G2.out O2.out (HP.out.ents.later (O2.out.same (fun k hk => (HP.out.hM k hk).2)) |>.take 0) (fun k hk => (HP.out.hM k hk).2) (by rw [HNE.out]; omega) (by rw [HNE.out]; omega) (by rw [HMM.out]; exact HI.out)⟩
  · go_enter Try.func34, Try.ntmps34
    go_wp2_with fail
    refine K0.out.mono ?_
    rintro e w1 ⟨rfl, q, rfl⟩
    have g : Hid (LogAt S L r (.slice at_ m ct) (.slice (some x) ne ne) (keptTo es ne : Nat) (w.drewN q)) := by
      have := HP.out.log
      rw [HMM.out, HNE.out] at this
      exact this.later rfl
    have c3 := g.out.c3
    have c4 := g.out.c4
    have c0 := g.out.c0
    have c2 := g.out.c2
    have z0 := g.out.z 0
    have z2 := g.out.z 2
    have z3 := g.out.z 3
    have z4 := g.out.z 4
    have hle : L - (ne : Int) ≤ n := by have := HNL.out; omega
    go_wp2_with fail
    refine wp_loop_rounds 1 ?_
    rw [rounds_succ]
    go_wp2_with fail
    refine (clip_some x ne ne _ (Nat.le_refl _)).mono ?_
    rintro e w1 ⟨rfl, rfl⟩
    go_wp2_with fail
    obtain ⟨W, hW⟩ : ∃ W, W = ((w.drewN q).setCell ⟨S, 3, none⟩ (.slice (some x) ne ne)).setCell ⟨S, 0, none⟩ (.int .u64 n) := ⟨_, rfl⟩
    have GW : Hid (LogAt S n r (.slice at_ m ct) (.slice (some x) ne ne) (keptTo es ne : Nat) W) := by
      have h := (g.out.put3 (.slice (some x) ne ne)).put0 n
      rw [← hW] at h
      exact h
    have OW : Hid (Only S w W) := by
      have h := (((Only.refl S w).drewN q).put 3 (.slice (some x) ne ne)).put 0 (.int .u64 n)
      rw [← hW] at h
      exact h
    rw [← hW]
    clear hW c3 c4 c0 c2 z0 z2 z3 z4 g
    refine (KS.out W (HP.out.runs.later (OW.out.same (fun k hk => (HP.out.hM k hk).2))) (fun k hk => Nat.lt_of_lt_of_le (HP.out.hM k hk).1 OW.out.size)).mono ?_
    rintro e w2 ⟨i, B, rfl, hi, hb2⟩
    have HI := hide hi
    have hi1 : i ≤ m := hi.1
    have G2 := hide (GW.out.below hb2)
    have O2 := hide (OW.out.trans (Only.of_below hb2))
    have c2 := G2.out.c2
    have z2 := G2.out.z 2
    clear hi hb2
    have hit : (i : Int) ≤ (ct : Int) := by omega
    go_wp2
    go_end0
    refine ⟨rfl, cut_end (k := ne) (a' := (some x)) G2.out O2.out (HP.out.ents.later (O2.out.same (fun k hk => (HP.out.hM k hk).2)) |>.take ne) (fun k hk => (HP.out.hM k hk).2) (by rw [HNE.out]; omega) (by rw [HNE.out]; omega) (by rw [HMM.out]; exact HI.out)⟩
end Go.Proofs.Qxb6605855a
