import Derived.Test.Qxb6605855aWalkE
import Derived.Test.Qxb6605855aLog
namespace Go.Proofs.Qxb6605855a
open Go.RowKit

theorem keptTo_take (es : List Ent) (k : Nat) : keptTo (es.take k) (es.take k).length = keptTo es k := by
  unfold keptTo
  rw [List.take_of_length_le (Nat.le_refl _)]

/-- What is asked of a log that is cut to n. -/
structure CutPre (M : Nat → Prop) (S : Nat) (L r n : Int) (at_ ar : Option Addr) (ct : Nat) (rs : List (Int × Int)) (es : List Ent) (w : World) : Prop where
  log : LogAt S L r (.slice at_ rs.length ct) (.slice ar es.length es.length) (keptTo es es.length : Nat) w
  hct : rs.length ≤ ct
  hl1 : rs.length ≤ 65536
  hl2 : es.length ≤ 65536
  by_ : ∀ i, i < es.length → (es.getD i noEnt).bs.length ≤ 1048576
  runs : RunsAt M w at_ rs
  ents : EntsAt M true w ar es
  hM : ∀ k, M k → k < w.heap.size ∧ k ≠ S
  up : asc rs
  n0 : 0 ≤ n
  nL : n ≤ L
  LL : L < 18446744073709551616
  nn : n < 18446744073709551615
  eL : (es.length : Int) ≤ L

/-- What is left. -/
structure CutPost (M : Nat → Prop) (S : Nat) (L r n : Int) (at_ : Option Addr) (ct : Nat) (rs : List (Int × Int)) (es : List Ent) (w w' : World) : Prop where
  only : Only S w w'
  left : ∃ (i k : Nat) (a' : Option Addr), LogAt S n r (.slice at_ i ct) (.slice a' k k) (keptTo es k : Nat) w' ∧ EntsAt M true w' a' (es.take k) ∧ k = (n - (L - es.length)).toNat ∧ k ≤ es.length ∧
    i ≤ rs.length ∧ (∀ j, j < i → (rs.getD j (0, 0)).1 ≤ n) ∧ (∀ j, i ≤ j → j < rs.length → n < (rs.getD j (0, 0)).1)

/-- The last store of a cut. -/
theorem cut_end {M : Nat → Prop} {S : Nat} {L r n : Int} {at_ a' : Option Addr} {ct i k : Nat} {rs : List (Int × Int)} {es : List Ent} {vT : Value} {w w2 : World} (hG : LogAt S n r vT (.slice a' k k) (keptTo es k : Nat) w2) (hO : Only S w w2) (hE : EntsAt M true w2 a' (es.take k)) (hM : ∀ k, M k → k ≠ S)
    (hk : k = (n - (L - es.length)).toNat) (hk2 : k ≤ es.length) (hi : i ≤ rs.length ∧ (∀ j, j < i → (rs.getD j (0, 0)).1 < n + 1) ∧ (∀ j, i ≤ j → j < rs.length → n + 1 ≤ (rs.getD j (0, 0)).1)) :
    CutPost M S L r n at_ ct rs es w (w2.setCell ⟨S, 2, none⟩ (.slice at_ i ct)) :=
  ⟨hO.put 2 _, i, k, a', hG.put2 _, hE.later (((Only.refl S w2).put 2 _).same hM), hk, hk2, hi.1, fun j hj => by have := hi.2.1 j hj; omega, fun j h1 h2 => by have := hi.2.2 j h1 h2; omega⟩

set_option maxRecDepth 100000 in
set_option maxHeartbeats 1600000 in
/-- Short of what is in memory: nothing stays there. -/
theorem cut_short (M : Nat → Prop) (S : Nat) (L r n : Int) (at_ ar : Option Addr) (ct : Nat) (rs : List (Int × Int)) (es : List Ent) (w : World) (h : CutPre M S L r n at_ ar ct rs es w) (hn : n < L - es.length) :
    Calls Try.prog 34 #[.pointer (some ⟨S, 0, none⟩), .int .u64 n] w fun e w' => e = .returned (.tuple #[]) ∧ CutPost M S L r n at_ ct rs es w w' := by
  have K0 := hide (base_any S es.length es.length L ar w h.log.c0 h.log.c3 h.hl2 h.eL h.LL)
  have KS : Hid (∀ w1, RunsAt M w1 at_ rs → (∀ k, M k → k < w1.heap.size) → Calls Try.prog 49 #[.slice at_ rs.length ct, .int .u64 (n + 1), .func (.func 29) #[] #[]] w1 fun e w' => ∃ (r : Nat) (B : Bool), e = .returned (.tuple #[.int .i64 r, .bool B]) ∧ (r ≤ rs.length ∧ (∀ i, i < r → (rs.getD i (0, 0)).1 < n + 1) ∧ (∀ i, r ≤ i → i < rs.length → n + 1 ≤ (rs.getD i (0, 0)).1)) ∧ Below w1.heap.size w1 w') :=
    fun w1 hr hM => search_any M at_ ct rs (n + 1) w1 h.hl1 hr hM h.up
  have HP := hide h
  have hS := h.log.lt
  have hnn := h.nn
  have hn0 := h.n0
  have hct := h.hct
  have hl1 := h.hl1
  have hl2 := h.hl2
  have hLL := h.LL
  clear h
  obtain ⟨m, hm⟩ : ∃ m, rs.length = m := ⟨_, rfl⟩
  have HMM := hide hm
  rw [hm] at KS hct hl1
  clear hm
  obtain ⟨ne, hne⟩ : ∃ ne, es.length = ne := ⟨_, rfl⟩
  have HNE := hide hne
  rw [hne] at K0 hl2 hn
  clear hne
  go_enter Try.func34, Try.ntmps34
  go_wp2_with fail
  refine K0.out.mono ?_
  rintro e w1 ⟨rfl, q, rfl⟩
  have g : Hid (LogAt S L r (.slice at_ m ct) (.slice ar ne ne) (keptTo es ne : Nat) (w.drewN q)) := by
    have := HP.out.log
    rw [HMM.out, HNE.out] at this
    exact this.later rfl
  have c3 := g.out.c3
  have c4 := g.out.c4
  have c0 := g.out.c0
  have c2 := g.out.c2
  have z0 := g.out.z 0
  have z2 := g.out.z 2
  have z3 := g.out.z 3
  have z4 := g.out.z 4
  go_wp2_with fail
  obtain ⟨W, hW⟩ : ∃ W, W = (((w.drewN q).setCell ⟨S, 3, none⟩ (.slice none 0 0)).setCell ⟨S, 4, none⟩ (.int .i64 0)).setCell ⟨S, 0, none⟩ (.int .u64 n) := ⟨_, rfl⟩
  have GW : Hid (LogAt S n r (.slice at_ m ct) (.slice none 0 0) 0 W) := by
    have h := ((g.out.put3 (.slice none 0 0)).put4 0).put0 n
    rw [← hW] at h
    exact h
  have OW : Hid (Only S w W) := by
    have h := ((((Only.refl S w).drewN q).put 3 (.slice none 0 0)).put 4 (.int .i64 0)).put 0 (.int .u64 n)
    rw [← hW] at h
    exact h
  rw [← hW]
  clear hW c3 c4 c0 c2 z0 z2 z3 z4 g
  refine (KS.out W (HP.out.runs.later (OW.out.same (fun k hk => (HP.out.hM k hk).2))) (fun k hk => Nat.lt_of_lt_of_le (HP.out.hM k hk).1 OW.out.size)).mono ?_
  rintro e w2 ⟨i, B, rfl, hi, hb2⟩
  have HI := hide hi
  have hi1 : i ≤ m := hi.1
  have G2 := hide (GW.out.below hb2)
  have O2 := hide (OW.out.trans (Only.of_below hb2))
  have c2 := G2.out.c2
  have z2 := G2.out.z 2
  clear hi hb2
  have hit : (i : Int) ≤ (ct : Int) := by omega
  go_wp2
  go_end0
  refine ⟨rfl, cut_end (k := 0) (a' := none) (by rw [keptTo_zero]; exact G2.out) O2.out (.inl (by simp)) (fun k hk => (HP.out.hM k hk).2) (by rw [HNE.out]; omega) (Nat.zero_le _) (by rw [HMM.out]; exact HI.out)⟩
end Go.Proofs.Qxb6605855a
