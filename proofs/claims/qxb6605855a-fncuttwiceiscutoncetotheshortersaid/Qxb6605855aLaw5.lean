import Derived.Test.Qxb6605855aCut3
import Derived.Test.Qxb6605855aWalkG
import Derived.Test.Qxb6605855aWalkH
/-! The law 'cut keeps exactly the first n positions': the walk. -/
namespace Go.Proofs.Qxb6605855a
open Go.RowKit Go.Sort
attribute [local go_sem] Go.wp_at_zero Go.wp_at_succ

theorem from_g (f t : Int) (w : World) (n : Nat) (os : Array Obj) : Calls Try.prog 25 #[.agg #[.int .u64 f, .int .u64 t]] (grow (w.drewN n) os) fun r w' => r = .returned (.int .u64 f) ∧ ∃ p : GrownBy, w' = grow (w.drewN p.n) p.os :=
  Calls.grown_of ((runFrom_any f t _).mono fun _ _ ⟨h1, h2⟩ => ⟨h1, 0, _, h2.trans (alloc_eq_grow _ _)⟩)
theorem termOf_g (f t : Int) (w : World) (n : Nat) (os : Array Obj) : Calls Try.prog 26 #[.agg #[.int .u64 f, .int .u64 t]] (grow (w.drewN n) os) fun r w' => r = .returned (.int .u64 t) ∧ ∃ p : GrownBy, w' = grow (w.drewN p.n) p.os :=
  Calls.grown_of ((runTerm_any f t _).mono fun _ _ ⟨h1, h2⟩ => ⟨h1, 0, _, h2.trans (alloc_eq_grow _ _)⟩)

/-- What lies there behind the cut. -/
structure Ready (M : Nat → Prop) (S : Nat) (n r : Int) (at_ a' ar br : Option Addr) (ct i k : Nat) (rs : List (Int × Int)) (es : List Ent) (w : World) : Prop where
  log : LogAt S n r (.slice at_ i ct) (.slice a' k k) (keptTo es k : Nat) w
  got : EntsAt M true w a' (es.take k)
  terms : RunsAt M w at_ rs
  runs : RunsAt M w ar rs
  recent : EntsAt M false w br es
  hM : ∀ j, M j → j < w.heap.size
  hk : k ≤ es.length
  hi : i ≤ rs.length
  lo : ∀ j, j < i → (rs.getD j (0, 0)).1 ≤ n
  hi2 : ∀ j, i ≤ j → j < rs.length → n < (rs.getD j (0, 0)).1

theorem Ready.later {M : Nat → Prop} {S : Nat} {n r : Int} {at_ a' ar br : Option Addr} {ct i k : Nat} {rs : List (Int × Int)} {es : List Ent} {w w' : World} (h : Ready M S n r at_ a' ar br ct i k rs es w) (hb : Below w.heap.size w w') : Ready M S n r at_ a' ar br ct i k rs es w' :=
  ⟨h.log.below hb, h.got.later (Same.all hb), h.terms.later (Same.all hb), h.runs.later (Same.all hb), h.recent.later (Same.all hb), fun j hj => Nat.lt_of_lt_of_le (h.hM j hj) hb.size, h.hk, h.hi, h.lo, h.hi2⟩

theorem ready_of {S : Nat} {L n r : Int} {at_ ae ar br : Option Addr} {rs : List (Int × Int)} {es : List Ent} {w w3 w4 : World} (hn0 : 0 ≤ n) (hnL : n ≤ L) (hLL : L < 18446744073709551616) (hnn : n < 18446744073709551615) (heL : (es.length : Int) ≤ L) (hf : Fits rs es) (hup : asc rs)
    (hr : RunsAt (fun k => k < w3.heap.size) w3 ar rs) (he : EntsAt (fun k => k < w3.heap.size) false w3 br es) (hb4 : Below w3.heap.size w3 w4) (hS : w3.heap.size ≤ S)
    (hg : w4.heap[S]? = some (.cells #[.int .u64 L, .int .u64 r, .slice at_ rs.length rs.length, .slice ae es.length es.length, .int .i64 (keptTo es es.length : Nat), .pointer none] 77 (0, 0)))
    (ht : RunsAt (fun k => w3.heap.size ≤ k ∧ k < S) w4 at_ rs) (hae : EntsAt (fun k => w3.heap.size ≤ k ∧ k < S) true w4 ae es) (hw : Below w.heap.size w w3) :
    Calls Try.prog 17 #[.pointer (some ⟨S, 0, none⟩), .int .u64 n] w4 fun e w5 => e = .returned (.tuple #[]) ∧ ∃ (i k : Nat) (a' : Option Addr), Ready (fun k => k < w4.heap.size ∧ k ≠ S) S n r at_ a' ar br rs.length i k rs es w5 ∧ k = (n - (L - es.length)).toNat ∧ Below w.heap.size w w5 := by
  have hlog := LogAt.of_block hg
  have hSl := hlog.lt
  have hs4 := hb4.size
  have hp : CutPre (fun k => k < w4.heap.size ∧ k ≠ S) S L r n at_ ae rs.length rs es w4 :=
    ⟨hlog, Nat.le_refl _, hf.1, hf.2.1, hf.2.2, ht.mono (fun k hk => ⟨by omega, by omega⟩), hae.mono (fun k hk => ⟨by omega, by omega⟩), fun k hk => hk, hup, hn0, hnL, hLL, hnn, heL⟩
  refine (cut17 _ S L r n at_ ae rs.length rs es w4 hp).mono ?_
  rintro e w5 ⟨rfl, ho, i, k, a', g1, g2, g3, g4, g5, g6, g7⟩
  have hsame : Same (fun k => k < w4.heap.size ∧ k ≠ S) w4 w5 := ho.same (fun k hk => hk.2)
  refine ⟨rfl, i, k, a', ⟨g1, g2, (ht.mono (fun k hk => ⟨by omega, by omega⟩)).later hsame, ((hr.later (Same.all hb4)).mono (fun k hk => ⟨by omega, by omega⟩)).later hsame, ((he.later (Same.all hb4)).mono (fun k hk => ⟨by omega, by omega⟩)).later hsame, fun j hj => Nat.lt_of_lt_of_le hj.1 ho.size, g4, g5, g6, g7⟩, g3, ?_⟩
  have hws := hw.size
  exact (hw.trans (hb4.mono hws)).trans (ho.below (by omega) (by omega))

set_option maxRecDepth 100000 in
set_option maxHeartbeats 6400000 in
theorem law5 (L r n : Int) (a b : Option Addr) (ca cb : Nat) (rs : List (Int × Int)) (es : List Ent) (w : World) (hr : RunsAt (fun k => k < w.heap.size) w a rs) (he : EntsAt (fun k => k < w.heap.size) false w b es) (h0a : a = none → ca = 0) (h0b : b = none → cb = 0) (hL0 : 0 ≤ L) (hLL : L < 18446744073709551616) (hn0 : 0 ≤ n) (hn9 : n < 18446744073709551616) :
    Calls Try.prog 5 #[.int .u64 L, .int .u64 r, .slice a rs.length ca, .slice b es.length cb, .int .u64 n] w fun e w' => e = .returned (.bool true) ∧ Below w.heap.size w w' := by
  have mixed : Try.prog.follows .mixedOrders = true := by kernel_rfl
  have K1 := hide (bytes11_any _ L r n a b ca cb rs es w he)
  have K2 := hide (sizeOK_any _ a b ca cb rs es w he)
  have K3 : Hid (rs.length ≤ 65536 → _) := fun h => ascending_any _ a ca rs w h hr
  have K4 : Hid (∀ q, Fits rs es → Calls Try.prog 14 #[.slice a rs.length ca] (w.drewN q) _) := fun q h => cloneRuns_any (fun k => k < w.heap.size) a ca rs (w.drewN q) h.1 hr (fun k hk => hk) h0a
  have K5 : Hid (∀ w2, Below w.heap.size w w2 → Fits rs es → Calls Try.prog 15 #[.slice b es.length cb] w2 _) := fun w2 hb h => cloneRecent_any (fun k => k < w.heap.size) b cb es w2 h.2.1 h.2.2 (he.later (Same.all hb)) (fun k hk => Nat.lt_of_lt_of_le hk hb.size) h0b
  have K6 : Hid (∀ (a1 a2 : Option Addr) (c1 c2 : Nat) (w3 : World), Fits rs es → RunsAt (fun k => k < w3.heap.size) w3 a1 rs → EntsAt (fun k => k < w3.heap.size) false w3 a2 es → Calls Try.prog 16 #[.int .u64 L, .int .u64 r, .slice a1 rs.length c1, .slice a2 es.length c2] w3 _) :=
    fun a1 a2 c1 c2 w3 h h1 h2 => buildLog_any (fun k => k < w3.heap.size) a1 a2 c1 c2 rs es L r w3 h.1 h.2.1 h.2.2 h1 h2 (fun k hk => hk)
  have KK := hide (keptTo_le es)
  clear hr he h0a h0b
  obtain ⟨nr, hnr⟩ : ∃ m, rs.length = m := ⟨_, rfl⟩
  obtain ⟨ne, hne⟩ : ∃ m, es.length = m := ⟨_, rfl⟩
  have HNR := hide hnr
  have HNE := hide hne
  rw [hnr] at K1 K2 K3 K4 K6 ⊢
  rw [hne] at K1 K2 K5 K6 ⊢
  clear hnr hne
  go_enter Try.func5, Try.ntmps5
  go_wp2_with fail
  refine K1.out.mono ?_
  rintro e w1 ⟨⟨B, rfl, _⟩, rfl⟩
  cases B
  case false =>
    go_wp2
    go_ret
    exact ⟨rfl, Below.refl _ _⟩
  go_wp2_with fail
  refine K2.out.mono ?_
  rintro e w1 ⟨⟨B, rfl, hfits⟩, rfl⟩
  cases B
  case false =>
    go_wp2
    go_ret
    exact ⟨rfl, Below.refl _ _⟩
  have HF := hide (hfits rfl)
  clear hfits
  have hnr6 : nr ≤ 65536 := by have := HF.out.1; rw [HNR.out] at this; exact this
  have hne6 : ne ≤ 65536 := by have := HF.out.2.1; rw [HNE.out] at this; exact this
  by_cases hnL : n ≤ L
  case neg =>
    go_wp2
    go_ret
    exact ⟨rfl, Below.refl _ _⟩
  by_cases hnn : n = 18446744073709551615
  case pos =>
    subst hnn
    go_wp2
    go_ret
    exact ⟨rfl, Below.refl _ _⟩
  by_cases heL : (ne : Int) ≤ L
  case neg =>
    go_wp2
    go_ret
    exact ⟨rfl, Below.refl _ _⟩
  have hd1 : decide (L < n) = false := decide_eq_false (by omega)
  have hd2 : (n == 18446744073709551615) = false := by simpa using hnn
  have hd3 : decide (L < (ne : Int)) = false := decide_eq_false (by omega)
  go_wp2_with fail
  refine (K3.out hnr6).mono ?_
  rintro e w1 ⟨⟨B, rfl, hup⟩, q, rfl⟩
  cases B
  case false =>
    go_wp2
    go_ret
    exact ⟨rfl, ⟨rfl, rfl, rfl, Nat.le_refl _, fun _ _ => rfl⟩⟩
  have HUP := hide (hup rfl)
  clear hup
  go_wp2_with fail
  refine (K4.out q HF.out).mono ?_
  rintro e w2 ⟨ar, cr, rfl, hr2, hb2⟩
  have HR2 := hide hr2
  have HB2 : Hid (Below w.heap.size w w2) := (⟨hb2.os, hb2.tape, hb2.output, hb2.size, hb2.block⟩ : Below w.heap.size w w2)
  clear hr2 hb2
  go_wp2_with fail
  refine (K5.out w2 HB2.out HF.out).mono ?_
  rintro e w3 ⟨br, cb3, rfl, he3, hb3⟩
  have HE3 : Hid (EntsAt (fun k => k < w3.heap.size) false w3 br es) := he3.bound.mono (fun k hk => hk.2)
  have HR3 : Hid (RunsAt (fun k => k < w3.heap.size) w3 ar rs) := (HR2.out.later (Same.all hb3)).mono (fun k hk => Nat.lt_of_lt_of_le hk.2 hb3.size)
  have HB3 : Hid (Below w.heap.size w w3) := HB2.out.trans (hb3.mono HB2.out.size)
  clear he3 hb3 HR2 HB2
  go_wp2_with fail
  refine (K6.out ar br cr cb3 w3 HF.out HR3.out HE3.out).mono ?_
  rintro e w4 ⟨S, at_, ae, rfl, hg4, ht4, he4, hb4, hS4⟩
  rw [← HNR.out, ← HNE.out] at hg4
  have KC := hide (ready_of hn0 hnL hLL (show n < 18446744073709551615 by omega) (show (es.length : Int) ≤ L by rw [HNE.out]; exact heL) HF.out HUP.out HR3.out HE3.out hb4 hS4 hg4 ht4 he4 HB3.out)
  clear hg4 ht4 he4 hb4 hS4
  rw [HNR.out, HNE.out] at KC
  go_wp2_with fail
  refine KC.out.mono ?_
  rintro e w5 ⟨rfl, i, k, a', hrd, hk, hb5⟩
  have HRD := hide hrd
  have HB5 := hide hb5
  have hkn : k ≤ ne := by have := hrd.hk; rw [HNE.out] at this; exact this
  have hin : i ≤ nr := by have := hrd.hi; rw [HNR.out] at this; exact this
  clear hrd hb5 KC K1 K2 K3 K4 K5 K6 HR3 HE3 HB3
  generalize hMM : (fun k => k < w4.heap.size ∧ k ≠ S) = M at HRD
  clear hMM
  by_cases hd : L - n ≤ (ne : Int)
  · have hkk : (ne : Int) - (L - n) = (k : Int) := by omega
    clear hk
    have hkb := KK.out HF.out.2.2
    have HKB := hide hkb
    clear hkb
    go_wp2_with fail
    refine (logLength_any S n r _ _ _ w5 HRD.out.log).mono ?_
    rintro e w6 ⟨rfl, rfl⟩
    go_wp2_with fail
    refine (logRemoved_any S n r _ _ _ w5 HRD.out.log).mono ?_
    rintro e w6 ⟨rfl, rfl⟩
    go_wp2_with fail
    refine (logRecent_any S n r _ _ _ _ _ w5 HRD.out.log).mono ?_
    rintro e w6 ⟨rfl, rfl⟩
    go_wp2_with fail
    refine (logRecentCap_any S n r _ _ _ _ _ w5 HRD.out.log).mono ?_
    rintro e w6 ⟨rfl, rfl⟩
    go_wp2_with fail
    go_loopw [15, 16] (fun s1 s2 wr => ∃ j : Nat, j ≤ k ∧ s2 = .int .i64 j ∧ s1 = .int .i64 (keptTo es j : Nat) ∧ Hid (Below w5.heap.size w5 wr)) (fun _ i _ => k - (intOf i).toNat)
    case atStart => exact ⟨0, Nat.zero_le _, rfl, by rw [keptTo_zero]; rfl, Below.refl _ _⟩
    case round =>
      obtain ⟨j, hj, rfl, rfl, J⟩ := hrel
      by_cases hlt : j < k
      · have hR := HRD.out.later J.out
        have hjn : j < ne := by omega
        obtain ⟨bg, og, hx, hbg, pa, pc, hE, -⟩ := hR.got.at (n := k) (by rw [List.length_take, HNE.out]; omega) hlt
        cases hx
        obtain ⟨bb, ob, hx, hbb, pb, pd, hF, -⟩ := hR.recent.at HNE.out hjn
        cases hx
        have hgl := hR.hM _ hbg
        have hbl := hR.hM _ hbb
        have hke := keptTo_succ es j (by rw [HNE.out]; exact hjn)
        have hby := HF.out.2.2 j (by rw [HNE.out]; exact hjn)
        have hkj := HKB.out j (by rw [HNE.out]; omega)
        have htk : (es.take k).getD j noEnt = es.getD j noEnt := by simp [List.getD, hlt]
        rw [htk] at hE
        obtain ⟨e, he⟩ : ∃ e, es.getD j noEnt = e := ⟨_, rfl⟩
        rw [he] at hE hF hke hby
        clear he htk hR
        have KE : Hid (∀ m os, Calls Try.prog 22 #[.agg #[.int .u64 e.p, .int .u64 e.m, .int .u64 e.i, .int .u64 e.s, .slice pa e.bs.length pc, .int .u64 e.k, .int .u64 e.t, .int .u64 e.v], .agg #[.int .u64 e.p, .int .u64 e.m, .int .u64 e.i, .int .u64 e.s, .slice pb e.bs.length pd, .int .u64 e.k, .int .u64 e.t, .int .u64 e.v]] (grow (wr.drewN m) os) fun e w' => e = .returned (.bool true) ∧ ∃ p : GrownBy, w' = grow (wr.drewN p.n) p.os) :=
          fun m os => Calls.grown_of (sameEntry_any _ _ e pa pb pc pd _ hby (hE.bytes.later (Same.all (grow_below wr m os))) (hF.bytes.later (Same.all (grow_below wr m os))))
        obtain ⟨l, hl⟩ : ∃ l, e.bs.length = l := ⟨_, rfl⟩
        have x0 := fun m os => cell_grown (n := m) (os := os) hgl hE.c0
        have x1 := fun m os => cell_grown (n := m) (os := os) hgl hE.c1
        have x2 := fun m os => cell_grown (n := m) (os := os) hgl hE.c2
        have x3 := fun m os => cell_grown (n := m) (os := os) hgl hE.c3
        have x4 := fun m os => cell_grown (n := m) (os := os) hgl hE.c4
        have x5 := fun m os => cell_grown (n := m) (os := os) hgl hE.c5
        have x6 := fun m os => cell_grown (n := m) (os := os) hgl hE.c6
        have x7 := fun m os => cell_grown (n := m) (os := os) hgl hE.c7
        have y0 := fun m os => cell_grown (n := m) (os := os) hbl hF.c0
        have y1 := fun m os => cell_grown (n := m) (os := os) hbl hF.c1
        have y2 := fun m os => cell_grown (n := m) (os := os) hbl hF.c2
        have y3 := fun m os => cell_grown (n := m) (os := os) hbl hF.c3
        have y4 := fun m os => cell_grown (n := m) (os := os) hbl hF.c4
        have y5 := fun m os => cell_grown (n := m) (os := os) hbl hF.c5
        have y6 := fun m os => cell_grown (n := m) (os := os) hbl hF.c6
        have y7 := fun m os => cell_grown (n := m) (os := os) hbl hF.c7
        rw [hl] at x4 y4 KE hke hby
        have HKE := hide hke
        clear hE hF hl hke
        obtain ⟨kj, hkj'⟩ : ∃ kj, keptTo es j = kj := ⟨_, rfl⟩
        have HKJ := hide hkj'
        rw [hkj'] at hkj ⊢
        clear hkj'
        have hlt' : (j : Int) < (k : Int) := by omega
        have hjn' : (j : Int) < (ne : Int) := by omega
        go_wp2_with fail
        go_quiet_grown (first | (go_at_call 22; refine KE.out _ _))
        have SV : Hid (Below w5.heap.size w5 (grow (wr.drewN nq) osq)) := J.out.trans ((grow_below wr nq osq).mono J.out.size)
        have z4 := y4 nq osq
        clear x0 x1 x2 x3 x4 x5 x6 x7 y0 y1 y2 y3 y4 y5 y6 y7 KE
        generalize grow (wr.drewN nq) osq = wv at SV z4 ⊢
        go_wp2
        go_roundw
        case rel => exact ⟨j + 1, by omega, by go_num, by rw [HKE.out, HKJ.out]; go_num, SV⟩
        case measure => simp [intOf]; omega
      · obtain rfl : j = k := by omega
        have HW : Hid (Below w.heap.size w wr) := HB5.out.trans (J.out.mono HB5.out.size)
        have HRE := hide (HRD.out.later J.out)
        clear HRD HB5
        obtain ⟨w8, rfl⟩ : ∃ w8, w8 = wr := ⟨_, rfl⟩
        clear J
        go_wp2_with fail
        refine (logKept_any S n r _ _ _ w8 HRE.out.log).mono ?_
        rintro e w6 ⟨rfl, rfl⟩
        go_wp2_with fail
        go_loopw [17] (fun s1 wx => ∃ j : Nat, j ≤ i ∧ s1 = .int .i64 j ∧ w8 = wx) (fun x _ => i - (intOf x).toNat)
        case atStart => exact ⟨0, Nat.zero_le _, rfl, by trivial⟩
        case round =>
          obtain ⟨t, ht, rfl, rfl⟩ := hrel
          by_cases hti : t < i
          · obtain ⟨b1, o1, hx, hb1, s0, _⟩ := HRE.out.runs.at HNR.out (show t < nr by omega)
            cases hx
            have hfn := HRE.out.lo t hti
            generalize (rs.getD t (0, 0)).1 = f at s0 hfn
            have htn : (t : Int) < (nr : Int) := by omega
            go_wp2
            go_roundw
            case rel => exact ⟨t + 1, by omega, by go_num, by trivial⟩
            case measure => simp [intOf]; omega
          · obtain rfl : i = t := by omega
            have HSTOP : Hid (¬ (i : Int) < (nr : Int) ∨ ∃ b1 o1 f, ar = some ⟨b1, o1, none⟩ ∧ w8.cell? ⟨b1, o1 + i * 2, none⟩ = some (.int .u64 f) ∧ n < f ∧ (i : Int) < (nr : Int)) := by
              by_cases h : i < nr
              · obtain ⟨b1, o1, hx, hb1, s0, _⟩ := HRE.out.runs.at HNR.out h
                exact .inr ⟨b1, o1, _, hx, s0, HRE.out.hi2 i (Nat.le_refl _) (by rw [HNR.out]; exact h), by omega⟩
              · exact .inl (by omega)
            rcases HSTOP.out with hstop | ⟨b1, o1, f, hx, s0, hfn, hstop⟩
            rotate_left
            · cases hx
              go_wp2_with fail
              refine (logTerms_any S n r _ _ _ _ _ w8 HRE.out.log).mono ?_
              rintro e w6 ⟨rfl, rfl⟩
              go_wp2_with fail
              go_loopw [19] (fun s1 wx => ∃ j : Nat, j ≤ i ∧ s1 = .int .i64 j ∧ Hid (Below w8.heap.size w8 wx)) (fun x _ => i - (intOf x).toNat)
              case atStart => exact ⟨0, Nat.zero_le _, rfl, Below.refl _ _⟩
              case round =>
                obtain ⟨t, ht2, rfl, JJ⟩ := hrel
                by_cases hti2 : t < i
                · have hR := HRE.out.later JJ.out
                  obtain ⟨b2, o2, hx, hb2, s1, s2⟩ := hR.runs.at HNR.out (show t < nr by omega)
                  cases hx
                  obtain ⟨b3, o3, hx, hb3, t1, t2⟩ := hR.terms.at HNR.out (show t < nr by omega)
                  cases hx
                  have hl2 := hR.hM _ hb2
                  have hl3 := hR.hM _ hb3
                  clear hR
                  generalize (rs.getD t (0, 0)).1 = ff at s1 t1
                  generalize (rs.getD t (0, 0)).2 = tt at s2 t2
                  have x1 := fun m os => cell_grown (n := m) (os := os) hl2 s1
                  have x2 := fun m os => cell_grown (n := m) (os := os) hl2 s2
                  have y1 := fun m os => cell_grown (n := m) (os := os) hl3 t1
                  have y2 := fun m os => cell_grown (n := m) (os := os) hl3 t2
                  have q1 : (ff != ff) = false := by simp
                  have q2 : (tt != tt) = false := by simp
                  have hti3 : (t : Int) < (i : Int) := by omega
                  have htn3 : (t : Int) < (nr : Int) := by omega
                  clear s1 s2 t1 t2
                  go_wp2_with fail
                  go_quiet_grown (first | (go_at_call 25; refine from_g ff tt _ _ _) | (go_at_call 26; refine termOf_g ff tt _ _ _))
                  have SV : Hid (Below w8.heap.size w8 (grow (wr.drewN nq) osq)) := JJ.out.trans ((grow_below wr nq osq).mono JJ.out.size)
                  clear x1 x2 y1 y2
                  generalize grow (wr.drewN nq) osq = wv at SV ⊢
                  go_wp2
                  go_roundw
                  case rel => exact ⟨t + 1, by omega, by go_num, SV⟩
                  case measure => simp [intOf]; omega
                · go_wp2
                  go_ret
                  exact ⟨rfl, HW.out.trans (JJ.out.mono HW.out.size)⟩
            · go_wp2_with fail
              refine (logTerms_any S n r _ _ _ _ _ w8 HRE.out.log).mono ?_
              rintro e w6 ⟨rfl, rfl⟩
              go_wp2_with fail
              go_loopw [19] (fun s1 wx => ∃ j : Nat, j ≤ i ∧ s1 = .int .i64 j ∧ Hid (Below w8.heap.size w8 wx)) (fun x _ => i - (intOf x).toNat)
              case atStart => exact ⟨0, Nat.zero_le _, rfl, Below.refl _ _⟩
              case round =>
                obtain ⟨t, ht2, rfl, JJ⟩ := hrel
                by_cases hti2 : t < i
                · have hR := HRE.out.later JJ.out
                  obtain ⟨b2, o2, hx, hb2, s1, s2⟩ := hR.runs.at HNR.out (show t < nr by omega)
                  cases hx
                  obtain ⟨b3, o3, hx, hb3, t1, t2⟩ := hR.terms.at HNR.out (show t < nr by omega)
                  cases hx
                  have hl2 := hR.hM _ hb2
                  have hl3 := hR.hM _ hb3
                  clear hR
                  generalize (rs.getD t (0, 0)).1 = ff at s1 t1
                  generalize (rs.getD t (0, 0)).2 = tt at s2 t2
                  have x1 := fun m os => cell_grown (n := m) (os := os) hl2 s1
                  have x2 := fun m os => cell_grown (n := m) (os := os) hl2 s2
                  have y1 := fun m os => cell_grown (n := m) (os := os) hl3 t1
                  have y2 := fun m os => cell_grown (n := m) (os := os) hl3 t2
                  have q1 : (ff != ff) = false := by simp
                  have q2 : (tt != tt) = false := by simp
                  have hti3 : (t : Int) < (i : Int) := by omega
                  have htn3 : (t : Int) < (nr : Int) := by omega
                  clear s1 s2 t1 t2
                  go_wp2_with fail
                  go_quiet_grown (first | (go_at_call 25; refine from_g ff tt _ _ _) | (go_at_call 26; refine termOf_g ff tt _ _ _))
                  have SV : Hid (Below w8.heap.size w8 (grow (wr.drewN nq) osq)) := JJ.out.trans ((grow_below wr nq osq).mono JJ.out.size)
                  clear x1 x2 y1 y2
                  generalize grow (wr.drewN nq) osq = wv at SV ⊢
                  go_wp2
                  go_roundw
                  case rel => exact ⟨t + 1, by omega, by go_num, SV⟩
                  case measure => simp [intOf]; omega
                · go_wp2
                  go_ret
                  exact ⟨rfl, HW.out.trans (JJ.out.mono HW.out.size)⟩
  · obtain rfl : k = 0 := by omega
    clear hk
    go_wp2_with fail
    refine (logLength_any S n r _ _ _ w5 HRD.out.log).mono ?_
    rintro e w6 ⟨rfl, rfl⟩
    go_wp2_with fail
    refine (logRemoved_any S n r _ _ _ w5 HRD.out.log).mono ?_
    rintro e w6 ⟨rfl, rfl⟩
    go_wp2_with fail
    refine (logRecent_any S n r _ _ _ _ _ w5 HRD.out.log).mono ?_
    rintro e w6 ⟨rfl, rfl⟩
    go_wp2_with fail
    refine (logRecentCap_any S n r _ _ _ _ _ w5 HRD.out.log).mono ?_
    rintro e w6 ⟨rfl, rfl⟩
    go_wp2_with fail
    refine wp_loop_rounds 1 ?_
    rw [rounds_succ]
    go_wp2_with fail
    have HW := hide HB5.out
    have HRE := hide HRD.out
    clear HRD HB5
    obtain ⟨w8, rfl⟩ : ∃ w8, w8 = w5 := ⟨_, rfl⟩
    refine (logKept_any S n r _ _ _ w8 HRE.out.log).mono ?_
    rintro e w6 ⟨rfl, rfl⟩
    rw [keptTo_zero]
    go_wp2_with fail
    go_loopw [17] (fun s1 wx => ∃ j : Nat, j ≤ i ∧ s1 = .int .i64 j ∧ w8 = wx) (fun x _ => i - (intOf x).toNat)
    case atStart => exact ⟨0, Nat.zero_le _, rfl, by trivial⟩
    case round =>
      obtain ⟨t, ht, rfl, rfl⟩ := hrel
      by_cases hti : t < i
      · obtain ⟨b1, o1, hx, hb1, s0, _⟩ := HRE.out.runs.at HNR.out (show t < nr by omega)
        cases hx
        have hfn := HRE.out.lo t hti
        generalize (rs.getD t (0, 0)).1 = f at s0 hfn
        have htn : (t : Int) < (nr : Int) := by omega
        go_wp2
        go_roundw
        case rel => exact ⟨t + 1, by omega, by go_num, by trivial⟩
        case measure => simp [intOf]; omega
      · obtain rfl : i = t := by omega
        have HSTOP : Hid (¬ (i : Int) < (nr : Int) ∨ ∃ b1 o1 f, ar = some ⟨b1, o1, none⟩ ∧ w8.cell? ⟨b1, o1 + i * 2, none⟩ = some (.int .u64 f) ∧ n < f ∧ (i : Int) < (nr : Int)) := by
          by_cases h : i < nr
          · obtain ⟨b1, o1, hx, hb1, s0, _⟩ := HRE.out.runs.at HNR.out h
            exact .inr ⟨b1, o1, _, hx, s0, HRE.out.hi2 i (Nat.le_refl _) (by rw [HNR.out]; exact h), by omega⟩
          · exact .inl (by omega)
        rcases HSTOP.out with hstop | ⟨b1, o1, f, hx, s0, hfn, hstop⟩
        rotate_left
        · cases hx
          go_wp2_with fail
          refine (logTerms_any S n r _ _ _ _ _ w8 HRE.out.log).mono ?_
          rintro e w6 ⟨rfl, rfl⟩
          go_wp2_with fail
          go_loopw [19] (fun s1 wx => ∃ j : Nat, j ≤ i ∧ s1 = .int .i64 j ∧ Hid (Below w8.heap.size w8 wx)) (fun x _ => i - (intOf x).toNat)
          case atStart => exact ⟨0, Nat.zero_le _, rfl, Below.refl _ _⟩
          case round =>
            obtain ⟨t, ht2, rfl, JJ⟩ := hrel
            by_cases hti2 : t < i
            · have hR := HRE.out.later JJ.out
              obtain ⟨b2, o2, hx, hb2, s1, s2⟩ := hR.runs.at HNR.out (show t < nr by omega)
              cases hx
              obtain ⟨b3, o3, hx, hb3, t1, t2⟩ := hR.terms.at HNR.out (show t < nr by omega)
              cases hx
              have hl2 := hR.hM _ hb2
              have hl3 := hR.hM _ hb3
              clear hR
              generalize (rs.getD t (0, 0)).1 = ff at s1 t1
              generalize (rs.getD t (0, 0)).2 = tt at s2 t2
              have x1 := fun m os => cell_grown (n := m) (os := os) hl2 s1
              have x2 := fun m os => cell_grown (n := m) (os := os) hl2 s2
              have y1 := fun m os => cell_grown (n := m) (os := os) hl3 t1
              have y2 := fun m os => cell_grown (n := m) (os := os) hl3 t2
              have q1 : (ff != ff) = false := by simp
              have q2 : (tt != tt) = false := by simp
              have hti3 : (t : Int) < (i : Int) := by omega
              have htn3 : (t : Int) < (nr : Int) := by omega
              clear s1 s2 t1 t2
              go_wp2_with fail
              go_quiet_grown (first | (go_at_call 25; refine from_g ff tt _ _ _) | (go_at_call 26; refine termOf_g ff tt _ _ _))
              have SV : Hid (Below w8.heap.size w8 (grow (wr.drewN nq) osq)) := JJ.out.trans ((grow_below wr nq osq).mono JJ.out.size)
              clear x1 x2 y1 y2
              generalize grow (wr.drewN nq) osq = wv at SV ⊢
              go_wp2
              go_roundw
              case rel => exact ⟨t + 1, by omega, by go_num, SV⟩
              case measure => simp [intOf]; omega
            · go_wp2
              go_ret
              exact ⟨rfl, HW.out.trans (JJ.out.mono HW.out.size)⟩
        · go_wp2_with fail
          refine (logTerms_any S n r _ _ _ _ _ w8 HRE.out.log).mono ?_
          rintro e w6 ⟨rfl, rfl⟩
          go_wp2_with fail
          go_loopw [19] (fun s1 wx => ∃ j : Nat, j ≤ i ∧ s1 = .int .i64 j ∧ Hid (Below w8.heap.size w8 wx)) (fun x _ => i - (intOf x).toNat)
          case atStart => exact ⟨0, Nat.zero_le _, rfl, Below.refl _ _⟩
          case round =>
            obtain ⟨t, ht2, rfl, JJ⟩ := hrel
            by_cases hti2 : t < i
            · have hR := HRE.out.later JJ.out
              obtain ⟨b2, o2, hx, hb2, s1, s2⟩ := hR.runs.at HNR.out (show t < nr by omega)
              cases hx
              obtain ⟨b3, o3, hx, hb3, t1, t2⟩ := hR.terms.at HNR.out (show t < nr by omega)
              cases hx
              have hl2 := hR.hM _ hb2
              have hl3 := hR.hM _ hb3
              clear hR
              generalize (rs.getD t (0, 0)).1 = ff at s1 t1
              generalize (rs.getD t (0, 0)).2 = tt at s2 t2
              have x1 := fun m os => cell_grown (n := m) (os := os) hl2 s1
              have x2 := fun m os => cell_grown (n := m) (os := os) hl2 s2
              have y1 := fun m os => cell_grown (n := m) (os := os) hl3 t1
              have y2 := fun m os => cell_grown (n := m) (os := os) hl3 t2
              have q1 : (ff != ff) = false := by simp
              have q2 : (tt != tt) = false := by simp
              have hti3 : (t : Int) < (i : Int) := by omega
              have htn3 : (t : Int) < (nr : Int) := by omega
              clear s1 s2 t1 t2
              go_wp2_with fail
              go_quiet_grown (first | (go_at_call 25; refine from_g ff tt _ _ _) | (go_at_call 26; refine termOf_g ff tt _ _ _))
              have SV : Hid (Below w8.heap.size w8 (grow (wr.drewN nq) osq)) := JJ.out.trans ((grow_below wr nq osq).mono JJ.out.size)
              clear x1 x2 y1 y2
              generalize grow (wr.drewN nq) osq = wv at SV ⊢
              go_wp2
              go_roundw
              case rel => exact ⟨t + 1, by omega, by go_num, SV⟩
              case measure => simp [intOf]; omega
            · go_wp2
              go_ret
              exact ⟨rfl, HW.out.trans (JJ.out.mono HW.out.size)⟩
end Go.Proofs.Qxb6605855a
