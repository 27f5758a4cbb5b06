import Derived.Test.Qxb6605855aLaw5
/-! Two logs that hold the same; the law 'cut twice is cut once to the shorter': the walk. -/
namespace Go.Proofs.Qxb6605855a
open Go.RowKit Go.Sort

/-- A log that holds the first i of rs and the first k of es. -/
structure Holds2 (M : Nat → Prop) (S : Nat) (n r : Int) (at_ a' : Option Addr) (ct i k : Nat) (rs : List (Int × Int)) (es : List Ent) (w : World) : Prop where
  log : LogAt S n r (.slice at_ i ct) (.slice a' k k) (keptTo es k : Nat) w
  got : EntsAt M true w a' (es.take k)
  terms : RunsAt M w at_ rs
  hM : ∀ j, M j → j < w.heap.size
  hk : k ≤ es.length
  hi : i ≤ rs.length

theorem Holds2.later {M : Nat → Prop} {S : Nat} {n r : Int} {at_ a' : Option Addr} {ct i k : Nat} {rs : List (Int × Int)} {es : List Ent} {w w' : World} (h : Holds2 M S n r at_ a' ct i k rs es w) (hb : Below w.heap.size w w') : Holds2 M S n r at_ a' ct i k rs es w' :=
  ⟨h.log.below hb, h.got.later (Same.all hb), h.terms.later (Same.all hb), fun j hj => Nat.lt_of_lt_of_le (h.hM j hj) hb.size, h.hk, h.hi⟩

set_option maxRecDepth 100000 in
set_option maxHeartbeats 6400000 in
theorem sameLogs_any (M : Nat → Prop) (S T : Nat) (n r : Int) (at_ bt a' b' : Option Addr) (ct dt i k : Nat) (rs : List (Int × Int)) (es : List Ent) (w : World) (hf : Fits rs es) (ha : Holds2 M S n r at_ a' ct i k rs es w) (hb : Holds2 M T n r bt b' dt i k rs es w) :
    Calls Try.prog 28 #[.pointer (some ⟨S, 0, none⟩), .pointer (some ⟨T, 0, none⟩)] w fun e w' => e = .returned (.bool true) ∧ Below w.heap.size w w' := by
  have mixed : Try.prog.follows .mixedOrders = true := by kernel_rfl
  obtain ⟨nr, hnr⟩ : ∃ m, rs.length = m := ⟨_, rfl⟩
  obtain ⟨ne, hne⟩ : ∃ m, es.length = m := ⟨_, rfl⟩
  have HNR := hide hnr
  have HNE := hide hne
  have HF := hide hf
  have HA := hide ha
  have HB := hide hb
  have hin : i ≤ nr := by rw [← hnr]; exact ha.hi
  have hkn : k ≤ ne := by rw [← hne]; exact ha.hk
  have hnr6 : nr ≤ 65536 := by rw [← hnr]; exact hf.1
  have hne6 : ne ≤ 65536 := by rw [← hne]; exact hf.2.1
  have hd1 : (n != n) = false := by simp
  have hd2 : (r != r) = false := by simp
  have hd3 : ((k : Int) != (k : Int)) = false := by simp
  have hd4 : ((i : Int) != (i : Int)) = false := by simp
  obtain ⟨K, hK⟩ : ∃ K : Int, ((keptTo es k : Nat) : Int) = K := ⟨_, rfl⟩
  have hd5 : (K != K) = false := by simp
  have GA : Hid (LogAt S n r (.slice at_ i ct) (.slice a' k k) K w) := by have h := ha.log; rw [hK] at h; exact h
  have GB : Hid (LogAt T n r (.slice bt i dt) (.slice b' k k) K w) := by have h := hb.log; rw [hK] at h; exact h
  clear hnr hne hf ha hb hK
  go_enter Try.func28, Try.ntmps28
  go_wp2_with fail
  refine (logLength_any S n r _ _ _ w GA.out).mono ?_
  rintro e w6 ⟨rfl, rfl⟩
  go_wp2_with fail
  refine (logLength_any T n r _ _ _ w GB.out).mono ?_
  rintro e w6 ⟨rfl, rfl⟩
  go_wp2_with fail
  refine (logRemoved_any S n r _ _ _ w GA.out).mono ?_
  rintro e w6 ⟨rfl, rfl⟩
  go_wp2_with fail
  refine (logRemoved_any T n r _ _ _ w GB.out).mono ?_
  rintro e w6 ⟨rfl, rfl⟩
  go_wp2_with fail
  refine (logKept_any S n r _ _ _ w GA.out).mono ?_
  rintro e w6 ⟨rfl, rfl⟩
  go_wp2_with fail
  refine (logKept_any T n r _ _ _ w GB.out).mono ?_
  rintro e w6 ⟨rfl, rfl⟩
  go_wp2_with fail
  refine (logRecentCap_any S n r _ _ _ _ _ w GA.out).mono ?_
  rintro e w6 ⟨rfl, rfl⟩
  go_wp2_with fail
  refine (logRecentCap_any T n r _ _ _ _ _ w GB.out).mono ?_
  rintro e w6 ⟨rfl, rfl⟩
  go_wp2_with fail
  refine (logRecent_any S n r _ _ _ _ _ w GA.out).mono ?_
  rintro e w6 ⟨rfl, rfl⟩
  go_wp2_with fail
  refine (logRecent_any T n r _ _ _ _ _ w GB.out).mono ?_
  rintro e w6 ⟨rfl, rfl⟩
  go_wp2_with fail
  go_loopw [7] (fun s1 wr => ∃ j : Nat, j ≤ k ∧ s1 = .int .i64 j ∧ Hid (Below w.heap.size w wr)) (fun i _ => k - (intOf i).toNat)
  case atStart => exact ⟨0, Nat.zero_le _, rfl, Below.refl _ _⟩
  case round =>
    obtain ⟨j, hj, rfl, J⟩ := hrel
    by_cases hlt : j < k
    · have hR := HA.out.later J.out
      have hQ := HB.out.later J.out
      have hjn : j < ne := by omega
      have hlk : (es.take k).length = k := by rw [List.length_take, HNE.out]; omega
      obtain ⟨bg, og, hx, hbg, pa, pc, hE, -⟩ := hR.got.at (n := k) hlk hlt
      cases hx
      obtain ⟨bb, ob, hx, hbb, pb, pd, hF, -⟩ := hQ.got.at (n := k) hlk hlt
      cases hx
      have hgl := hR.hM _ hbg
      have hbl := hR.hM _ hbb
      have hby := HF.out.2.2 j (by rw [HNE.out]; exact hjn)
      have htk : (es.take k).getD j noEnt = es.getD j noEnt := by simp [List.getD, hlt]
      rw [htk] at hE hF
      obtain ⟨e, he⟩ : ∃ e, es.getD j noEnt = e := ⟨_, rfl⟩
      rw [he] at hE hF hby
      clear he htk hR hQ hlk
      have KE : Hid (∀ m os, Calls Try.prog 39 #[.agg #[.int .u64 e.p, .int .u64 e.m, .int .u64 e.i, .int .u64 e.s, .slice pa e.bs.length pc, .int .u64 e.k, .int .u64 e.t, .int .u64 e.v], .agg #[.int .u64 e.p, .int .u64 e.m, .int .u64 e.i, .int .u64 e.s, .slice pb e.bs.length pd, .int .u64 e.k, .int .u64 e.t, .int .u64 e.v]] (grow (wr.drewN m) os) fun e w' => e = .returned (.bool true) ∧ ∃ p : GrownBy, w' = grow (wr.drewN p.n) p.os) :=
        fun m os => Calls.grown_of (sameStored_any _ _ e pa pb pc pd _ hby (hE.bytes.later (Same.all (grow_below wr m os))) (hF.bytes.later (Same.all (grow_below wr m os))))
      obtain ⟨l, hl⟩ : ∃ l, e.bs.length = l := ⟨_, rfl⟩
      have x0 := fun m os => cell_grown (n := m) (os := os) hgl hE.c0
      have x1 := fun m os => cell_grown (n := m) (os := os) hgl hE.c1
      have x2 := fun m os => cell_grown (n := m) (os := os) hgl hE.c2
      have x3 := fun m os => cell_grown (n := m) (os := os) hgl hE.c3
      have x4 := fun m os => cell_grown (n := m) (os := os) hgl hE.c4
      have x5 := fun m os => cell_grown (n := m) (os := os) hgl hE.c5
      have x6 := fun m os => cell_grown (n := m) (os := os) hgl hE.c6
      have x7 := fun m os => cell_grown (n := m) (os := os) hgl hE.c7
      have y0 := fun m os => cell_grown (n := m) (os := os) hbl hF.c0
      have y1 := fun m os => cell_grown (n := m) (os := os) hbl hF.c1
      have y2 := fun m os => cell_grown (n := m) (os := os) hbl hF.c2
      have y3 := fun m os => cell_grown (n := m) (os := os) hbl hF.c3
      have y4 := fun m os => cell_grown (n := m) (os := os) hbl hF.c4
      have y5 := fun m os => cell_grown (n := m) (os := os) hbl hF.c5
      have y6 := fun m os => cell_grown (n := m) (os := os) hbl hF.c6
      have y7 := fun m os => cell_grown (n := m) (os := os) hbl hF.c7
      rw [hl] at x4 y4 KE
      clear hE hF hl hby
      have hlt' : (j : Int) < (k : Int) := by omega
      go_wp2_with fail
      go_quiet_grown (first | (go_at_call 39; refine KE.out _ _))
      have SV : Hid (Below w.heap.size w (grow (wr.drewN nq) osq)) := J.out.trans ((grow_below wr nq osq).mono J.out.size)
      clear x0 x1 x2 x3 x4 x5 x6 x7 y0 y1 y2 y3 y4 y5 y6 y7 KE
      generalize grow (wr.drewN nq) osq = wv at SV ⊢
      go_wp2
      go_roundw
      case rel => exact ⟨j + 1, by omega, by go_num, SV⟩
      case measure => simp [intOf]; omega
    · obtain rfl : j = k := by omega
      have HW : Hid (Below w.heap.size w wr) := J.out
      have HA8 := hide (HA.out.later J.out)
      have HB8 := hide (HB.out.later J.out)
      have GA8 := hide (GA.out.below J.out)
      have GB8 := hide (GB.out.below J.out)
      clear HA HB GA GB J
      obtain ⟨w8, rfl⟩ : ∃ w8, w8 = wr := ⟨_, rfl⟩
      go_wp2_with fail
      refine (logTerms_any S n r _ _ _ _ _ w8 GA8.out).mono ?_
      rintro e w6 ⟨rfl, rfl⟩
      go_wp2_with fail
      refine (logTerms_any T n r _ _ _ _ _ w8 GB8.out).mono ?_
      rintro e w6 ⟨rfl, rfl⟩
      go_wp2_with fail
      go_loopw [10] (fun s1 wx => ∃ j : Nat, j ≤ i ∧ s1 = .int .i64 j ∧ Hid (Below w8.heap.size w8 wx)) (fun x _ => i - (intOf x).toNat)
      case atStart => exact ⟨0, Nat.zero_le _, rfl, Below.refl _ _⟩
      case round =>
        obtain ⟨t, ht2, rfl, JJ⟩ := hrel
        by_cases hti2 : t < i
        · have hR := HA8.out.later JJ.out
          have hQ := HB8.out.later JJ.out
          obtain ⟨b2, o2, hx, hb2, s1, s2⟩ := hR.terms.at HNR.out (show t < nr by omega)
          cases hx
          obtain ⟨b3, o3, hx, hb3, t1, t2⟩ := hQ.terms.at HNR.out (show t < nr by omega)
          cases hx
          have hl2 := hR.hM _ hb2
          have hl3 := hR.hM _ hb3
          clear hR hQ
          generalize (rs.getD t (0, 0)).1 = ff at s1 t1
          generalize (rs.getD t (0, 0)).2 = tt at s2 t2
          have x1 := fun m os => cell_grown (n := m) (os := os) hl2 s1
          have x2 := fun m os => cell_grown (n := m) (os := os) hl2 s2
          have y1 := fun m os => cell_grown (n := m) (os := os) hl3 t1
          have y2 := fun m os => cell_grown (n := m) (os := os) hl3 t2
          have q1 : (ff != ff) = false := by simp
          have q2 : (tt != tt) = false := by simp
          have hti3 : (t : Int) < (i : Int) := by omega
          clear s1 s2 t1 t2
          go_wp2_with fail
          go_quiet_grown (first | (go_at_call 25; refine from_g ff tt _ _ _) | (go_at_call 26; refine termOf_g ff tt _ _ _))
          have SV : Hid (Below w8.heap.size w8 (grow (wr.drewN nq) osq)) := JJ.out.trans ((grow_below wr nq osq).mono JJ.out.size)
          clear x1 x2 y1 y2
          generalize grow (wr.drewN nq) osq = wv at SV ⊢
          go_wp2
          go_roundw
          case rel => exact ⟨t + 1, by omega, by go_num, SV⟩
          case measure => simp [intOf]; omega
        · go_wp2
          go_ret
          exact ⟨rfl, HW.out.trans (JJ.out.mono HW.out.size)⟩
end Go.Proofs.Qxb6605855a
