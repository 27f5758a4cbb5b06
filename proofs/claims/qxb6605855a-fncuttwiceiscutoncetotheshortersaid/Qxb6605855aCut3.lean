import Derived.Test.Qxb6605855aCut2
import Derived.Deep.RegionWith
namespace Go.Proofs.Qxb6605855a
open Go.RowKit

set_option maxRecDepth 100000 in
set_option maxHeartbeats 3200000 in
/-- Into what is in memory: the first kk stay. -/
theorem cut_part (M : Nat → Prop) (S : Nat) (L r n : Int) (at_ ar : Option Addr) (ct : Nat) (rs : List (Int × Int)) (es : List Ent) (w : World) (h : CutPre M S L r n at_ ar ct rs es w) (hn : L - es.length ≤ n) (hn2 : n < L) :
    Calls Try.prog 34 #[.pointer (some ⟨S, 0, none⟩), .int .u64 n] w fun e w' => e = .returned (.tuple #[]) ∧ CutPost M S L r n at_ ct rs es w w' := by
  have K0 := hide (base_any S es.length es.length L ar w h.log.c0 h.log.c3 h.hl2 h.eL h.LL)
  have KS : Hid (∀ w1, RunsAt M w1 at_ rs → (∀ k, M k → k < w1.heap.size) → Calls Try.prog 49 #[.slice at_ rs.length ct, .int .u64 (n + 1), .func (.func 29) #[] #[]] w1 fun e w' => ∃ (r : Nat) (B : Bool), e = .returned (.tuple #[.int .i64 r, .bool B]) ∧ (r ≤ rs.length ∧ (∀ i, i < r → (rs.getD i (0, 0)).1 < n + 1) ∧ (∀ i, r ≤ i → i < rs.length → n + 1 ≤ (rs.getD i (0, 0)).1)) ∧ Below w1.heap.size w1 w') :=
    fun w1 hr hM => search_any M at_ ct rs (n + 1) w1 h.hl1 hr hM h.up
  have HP := hide h
  have hS := h.log.lt
  have hnn := h.nn
  have hn0 := h.n0
  have hct := h.hct
  have hl1 := h.hl1
  have hl2 := h.hl2
  have hLL := h.LL
  clear h
  obtain ⟨m, hm⟩ : ∃ m, rs.length = m := ⟨_, rfl⟩
  have HMM := hide hm
  rw [hm] at KS hct hl1
  clear hm
  obtain ⟨ne, hne⟩ : ∃ ne, es.length = ne := ⟨_, rfl⟩
  have HNE := hide hne
  rw [hne] at K0 hl2 hn
  obtain ⟨kk, hkk⟩ : ∃ kk : Nat, n - (L - (ne : Int)) = (kk : Int) := ⟨(n - (L - (ne : Int))).toNat, by omega⟩
  have hkn : kk < ne := by omega
  clear hne
  obtain ⟨b, off, rfl, hb, _⟩ := HP.out.ents.at HNE.out (show 0 < ne by omega)
  have HKM := hide (keptTo_le es HP.out.by_)
  have HKK := hide hkk
  go_enter Try.func34, Try.ntmps34
  go_wp2_with fail
  refine K0.out.mono ?_
  rintro e w1 ⟨rfl, q, rfl⟩
  have g : Hid (LogAt S L r (.slice at_ m ct) (.slice (some ⟨b, off, none⟩) ne ne) (keptTo es ne : Nat) (w.drewN q)) := by
    have := HP.out.log
    rw [HMM.out, HNE.out] at this
    exact this.later rfl
  have c3 := g.out.c3
  have hkn' : (kk : Int) < (ne : Int) := by omega
  go_wp2_with fail
  obtain ⟨d, hd⟩ : ∃ d, ne - kk = d := ⟨_, rfl⟩
  rw [hd]
  have hne : Hid (ne = kk + d) := by show _ = _; omega
  clear hd c3
  go_loopw [23] (fun s23 wr => ∃ j : Nat, j ≤ d ∧ s23 = .int .i64 j ∧ Hid (LogAt S L r (.slice at_ m ct) (.slice (some ⟨b, off, none⟩) ne ne) ((keptTo es ne : Nat) - (keptTo es (kk + j) : Nat) + (keptTo es kk : Nat)) wr ∧ Only S w wr)) (fun i _ => d - (intOf i).toNat)
  case atStart =>
    refine ⟨0, Nat.zero_le _, rfl, And.intro ?_ ((Only.refl S w).drewN q)⟩
    have := g.out
    rw [show ((keptTo es ne : Nat) : Int) - (keptTo es (kk + 0) : Nat) + (keptTo es kk : Nat) = (keptTo es ne : Nat) by rw [Nat.add_zero]; omega]
    exact this
  case round =>
    clear g
    obtain ⟨j, hj, rfl, J⟩ := hrel
    have hk1 := HKM.out ne (by rw [HNE.out]; exact Nat.le_refl _)
    have hk2 := HKM.out kk (by rw [HNE.out]; omega)
    have hk3 := HKM.out (kk + j) (by rw [HNE.out]; have := hne.out; omega)
    by_cases hlt : j < d
    · have hkj : kk + j < ne := by have := hne.out; omega
      obtain ⟨b', off', hx, _, pa, pc, hE, hpc⟩ := (HP.out.ents.later (J.out.2.same (fun k hk => (HP.out.hM k hk).2))).at HNE.out hkj
      cases hx
      have hks := keptTo_succ es (kk + j) (by rw [HNE.out]; exact hkj)
      have hby := HP.out.by_ (kk + j) (by rw [HNE.out]; exact hkj)
      have hpc' := hpc rfl
      obtain ⟨e, he⟩ : ∃ e, es.getD (kk + j) noEnt = e := ⟨_, rfl⟩
      rw [he] at hE hks hby hpc'
      clear he hpc
      obtain ⟨l, hl⟩ : ∃ l, e.bs.length = l := ⟨_, rfl⟩
      have s0 := hE.c0
      have s1 := hE.c1
      have s2 := hE.c2
      have s3 := hE.c3
      have s4 := hE.c4
      have s5 := hE.c5
      have s6 := hE.c6
      have s7 := hE.c7
      rw [show off + (kk + j) * 8 = off + kk * 8 + j * 8 by omega] at s0 s1 s2 s3 s4 s5 s6 s7
      rw [hl] at s4 hks hby hpc'
      subst hpc'
      have HKS := hide hks
      have c4 := J.out.1.c4
      have z4 := J.out.1.z 4
      have hSr := J.out.1.lt
      clear hE hl hks
      obtain ⟨A, hA⟩ : ∃ A : Int, ((keptTo es ne : Nat) : Int) - (keptTo es (kk + j) : Nat) + (keptTo es kk : Nat) = A := ⟨_, rfl⟩
      have HAE := hide hA
      rw [hA] at c4
      have hA1 : -100000000000 ≤ A ∧ A ≤ 200000000000 := by omega
      obtain ⟨hA2, hA3⟩ := hA1
      clear hA hk1 hk2 hk3
      go_wp2
      go_region_with (go_at_call 47; refine (keptSize_any e _ _ _ _ hby).mono ?_; rintro e w' ⟨rfl, rfl⟩)
      all_goals go_wp2
      all_goals
        go_roundw
        case rel =>
          refine ⟨j + 1, by omega, by go_num, ?_⟩
          have h4 := J.out.1.put4 (A - ((pc : Int) + 64))
          have ho := J.out.2.put 4 (.int .i64 (A - ((pc : Int) + 64)))
          have ev : ((keptTo es ne : Nat) : Int) - (keptTo es (kk + (j + 1)) : Nat) + (keptTo es kk : Nat) = A - ((pc : Int) + 64) := by
            have h1 := HKS.out
            have h2 := HAE.out
            rw [show kk + (j + 1) = kk + j + 1 by omega, h1]
            omega
          rw [ev]
          exact And.intro (((h4.below ((Below.refl _ _).alloc (Nat.le_refl _) _)).below ((Below.refl _ _).alloc (Nat.le_refl _) _)).later rfl) (((ho.alloc _).alloc _).drew)
        case measure => simp [intOf]; omega
    · obtain rfl : j = d := by omega
      have gk : Hid (LogAt S L r (.slice at_ m ct) (.slice (some ⟨b, off, none⟩) ne ne) (keptTo es kk : Nat) wr) := by
        have := J.out.1
        rw [← hne.out, show ((keptTo es ne : Nat) : Int) - (keptTo es ne : Nat) + (keptTo es kk : Nat) = (keptTo es kk : Nat) by omega] at this
        exact this
      have c3 := gk.out.c3
      have c4 := gk.out.c4
      have c0 := gk.out.c0
      have c2 := gk.out.c2
      have z0 := gk.out.z 0
      have z2 := gk.out.z 2
      have z3 := gk.out.z 3
      have z4 := gk.out.z 4
      clear hk1 hk2 hk3
      go_wp2_with fail
      refine (clip_some ⟨b, off, none⟩ kk ne _ (by omega)).mono ?_
      rintro e w1 ⟨rfl, rfl⟩
      go_wp2_with fail
      obtain ⟨W, hW⟩ : ∃ W, W = (wr.setCell ⟨S, 3, none⟩ (.slice (some ⟨b, off, none⟩) kk kk)).setCell ⟨S, 0, none⟩ (.int .u64 n) := ⟨_, rfl⟩
      have GW : Hid (LogAt S n r (.slice at_ m ct) (.slice (some ⟨b, off, none⟩) kk kk) (keptTo es kk : Nat) W) := by
        have h := (gk.out.put3 (.slice (some ⟨b, off, none⟩) kk kk)).put0 n
        rw [← hW] at h
        exact h
      have OW : Hid (Only S w W) := by
        have h := (J.out.2.put 3 (.slice (some ⟨b, off, none⟩) kk kk)).put 0 (.int .u64 n)
        rw [← hW] at h
        exact h
      rw [← hW]
      clear hW c3 c4 c0 c2 z0 z2 z3 z4
      refine (KS.out W (HP.out.runs.later (OW.out.same (fun k hk => (HP.out.hM k hk).2))) (fun k hk => Nat.lt_of_lt_of_le (HP.out.hM k hk).1 OW.out.size)).mono ?_
      rintro e w2 ⟨i, B, rfl, hi, hb2⟩
      have HI := hide hi
      have hi1 : i ≤ m := hi.1
      have G2 := hide (GW.out.below hb2)
      have O2 := hide (OW.out.trans (Only.of_below hb2))
      have c2 := G2.out.c2
      have z2 := G2.out.z 2
      clear hi hb2
      have hit : (i : Int) ≤ (ct : Int) := by omega
      go_wp2
      go_end0
      refine ⟨rfl, cut_end (k := kk) (a' := (some ⟨b, off, none⟩)) G2.out O2.out (HP.out.ents.later (O2.out.same (fun k hk => (HP.out.hM k hk).2)) |>.take kk) (fun k hk => (HP.out.hM k hk).2) (by rw [HNE.out]; omega) (by rw [HNE.out]; omega) (by rw [HMM.out]; exact HI.out)⟩

/-- (*entryLog).cut. -/
theorem cut34 (M : Nat → Prop) (S : Nat) (L r n : Int) (at_ ar : Option Addr) (ct : Nat) (rs : List (Int × Int)) (es : List Ent) (w : World) (h : CutPre M S L r n at_ ar ct rs es w) :
    Calls Try.prog 34 #[.pointer (some ⟨S, 0, none⟩), .int .u64 n] w fun e w' => e = .returned (.tuple #[]) ∧ CutPost M S L r n at_ ct rs es w w' := by
  by_cases h1 : n < L - es.length
  · exact cut_short M S L r n at_ ar ct rs es w h h1
  · by_cases h2 : n = L
    · exact cut_whole M S L r n at_ ar ct rs es w h h2
    · exact cut_part M S L r n at_ ar ct rs es w h (by omega) (by have := h.nL; omega)

theorem cut17 (M : Nat → Prop) (S : Nat) (L r n : Int) (at_ ar : Option Addr) (ct : Nat) (rs : List (Int × Int)) (es : List Ent) (w : World) (h : CutPre M S L r n at_ ar ct rs es w) :
    Calls Try.prog 17 #[.pointer (some ⟨S, 0, none⟩), .int .u64 n] w fun e w' => e = .returned (.tuple #[]) ∧ CutPost M S L r n at_ ct rs es w w' := by
  have K := hide (cut34 M S L r n at_ ar ct rs es w h)
  clear h
  go_enter Try.func17, Try.ntmps17
  go_wp2_with fail
  refine K.out.mono ?_
  rintro e w' ⟨rfl, h⟩
  have H := hide h
  clear h
  go_wp2
  go_end0
  exact ⟨rfl, H.out⟩
end Go.Proofs.Qxb6605855a
