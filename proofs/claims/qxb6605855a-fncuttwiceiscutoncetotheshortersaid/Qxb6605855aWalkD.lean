import Derived.Test.Qxb6605855aWalkC
import Derived.Deep.RegionWith
import Derived.Deep.DrawnRows
namespace Go.Proofs.Qxb6605855a
open Go.RowKit

theorem newEntry_any (p m i s k t v : Int) (pa : Option Addr) (L pc : Nat) (w : World) :
    Calls Try.prog 32 #[.int .u64 p, .int .u64 m, .int .u64 i, .int .u64 s, .slice pa L pc, .int .u64 k, .int .u64 t, .int .u64 v] w fun e w' =>
      e = .returned (.agg #[.int .u64 p, .int .u64 m, .int .u64 i, .int .u64 s, .slice pa L pc, .int .u64 k, .int .u64 t, .int .u64 v]) ∧ w' = w.alloc (.cells #[.int .u64 p, .int .u64 m, .int .u64 i, .int .u64 s, .slice pa L pc, .int .u64 k, .int .u64 t, .int .u64 v] 52) := by
  go_enter Try.func32, Try.ntmps32
  go_wp2
  exact bodyPost_ret (v := .agg #[.int .u64 p, .int .u64 m, .int .u64 i, .int .u64 s, .slice pa L pc, .int .u64 k, .int .u64 t, .int .u64 v]) (by simp [results, Try.results32, go_sem]) rfl ⟨rfl, rfl⟩

theorem newEntryLog_any (L r kept : Int) (a1 a2 : Option Addr) (n1 c1 n2 c2 : Nat) (w : World) :
    Calls Try.prog 33 #[.int .u64 L, .int .u64 r, .slice a1 n1 c1, .slice a2 n2 c2, .int .i64 kept] w fun e w' =>
      e = .returned (.pointer (some ⟨w.heap.size, 0, none⟩)) ∧ w' = w.alloc (.cells #[.int .u64 L, .int .u64 r, .slice a1 n1 c1, .slice a2 n2 c2, .int .i64 kept, .pointer none] 77) := by
  go_enter Try.func33, Try.ntmps33
  go_wp2
  go_ret
  exact ⟨rfl, rfl⟩

def keptTo (es : List Ent) (k : Nat) : Nat := ((es.take k).map fun e => e.bs.length + 64).sum
theorem keptTo_zero (es : List Ent) : keptTo es 0 = 0 := by simp [keptTo]
theorem keptTo_succ (es : List Ent) (k : Nat) (h : k < es.length) : keptTo es (k + 1) = keptTo es k + ((es.getD k noEnt).bs.length + 64) := by
  unfold keptTo
  rw [List.take_succ_eq_append_getElem h, List.map_append, List.sum_append]
  simp [List.getD, h]
theorem keptTo_le (es : List Ent) (hby : ∀ i, i < es.length → (es.getD i noEnt).bs.length ≤ 1048576) : ∀ k, k ≤ es.length → keptTo es k ≤ k * 1048640
  | 0, _ => by rw [keptTo_zero]; exact Nat.zero_le _
  | k + 1, h => by
    rw [keptTo_succ es k h]
    have h1 := keptTo_le es hby k (by omega)
    have h2 := hby k h
    omega

/-- The terms in the making. -/
structure RunFill (w0 w : World) (g n : Nat) (rs : List (Int × Int)) (k : Nat) : Prop where
  fill : Fill w g (n * 2) (valR rs) (k * 2)
  bel : Below w0.heap.size w0 w
  lt : g < w.heap.size

set_option maxRecDepth 100000 in
set_option maxHeartbeats 1600000 in
theorem buildLog_any (M : Nat → Prop) (a1 a2 : Option Addr) (c1 c2 : Nat) (rs : List (Int × Int)) (es : List Ent) (L r : Int) (w : World) (hl1 : rs.length ≤ 65536) (hl2 : es.length ≤ 65536) (hby : ∀ i, i < es.length → (es.getD i noEnt).bs.length ≤ 1048576)
    (hr : RunsAt M w a1 rs) (he : EntsAt M false w a2 es) (hM : ∀ k, M k → k < w.heap.size) :
    Calls Try.prog 16 #[.int .u64 L, .int .u64 r, .slice a1 rs.length c1, .slice a2 es.length c2] w fun e w' => ∃ S at_ ae, e = .returned (.pointer (some ⟨S, 0, none⟩)) ∧
      w'.heap[S]? = some (.cells #[.int .u64 L, .int .u64 r, .slice at_ rs.length rs.length, .slice ae es.length es.length, .int .i64 (keptTo es es.length : Nat), .pointer none] 77 (0, 0)) ∧
      RunsAt (fun k => w.heap.size ≤ k ∧ k < S) w' at_ rs ∧ EntsAt (fun k => w.heap.size ≤ k ∧ k < S) true w' ae es ∧ Below w.heap.size w w' ∧ w.heap.size ≤ S := by
  obtain ⟨i0, hi, hz0, hz1, hz2⟩ := info_parts Try.info25
  obtain ⟨i5, hi5, hz50, hz51, hz52⟩ := info_parts Try.info5
  obtain ⟨i8, hi8, hz80, hz81, hz82⟩ := info_parts Try.info52
  have hsz : (Try.prog.info? 5).map (·.size) = some 1 := by rw [hi5]; simp [hz51]
  obtain ⟨n, hn⟩ : ∃ n, rs.length = n := ⟨_, rfl⟩
  obtain ⟨m, hm⟩ : ∃ m, es.length = m := ⟨_, rfl⟩
  have HN := hide hn
  have HMM := hide hm
  have HR := hide hr
  have HEN := hide he
  have HM := hide hM
  have HBY := hide hby
  have HKL := hide (keptTo_le es hby)
  rw [hn] at hl1 ⊢
  rw [hm] at hl2 ⊢
  clear hn hm hr he hM hby
  go_enter Try.func16, Try.ntmps16
  go_wp2_with (at_make; refine wpList_make_full _ rfl _ _ 57 rfl w.heap.size 25 i0 (.agg #[.int .u64 0, .int .u64 0]) 2 Try.underlying57 hi hz0 hz1 _ _ _ _ n rfl rfl (by omega) (by omega) ?b2 ?b3 (Nat.le_refl _) ?_)
  case b2 => rw [hz2]; omega
  case b3 => unfold maxLen; omega
  intro w0 hown0 hgrow0
  have HF : Hid (RunFill w w0 w.heap.size n rs 0) := by
    refine ⟨Fill.start hown0, (Below.refl _ _).grown hgrow0 (Nat.le_refl _) (fun k h => by cases h), ?_⟩
    rcases hown0.2 with ⟨h, _⟩ | ⟨g, cap, cur, hv, _, hg, _⟩
    · cases h
    · cases hv
      rcases Nat.lt_or_ge w.heap.size w0.heap.size with h | h
      · exact h
      · rw [Array.getElem?_eq_none h] at hg; cases hg
  clear hown0 hgrow0
  go_wp2
  go_loopw [10] (fun i wr => ∃ k : Nat, k ≤ n ∧ i = .int .i64 k ∧ Hid (RunFill w wr w.heap.size n rs k)) (fun i _ => n - (intOf i).toNat)
  case atStart => exact ⟨0, Nat.zero_le _, rfl, HF⟩
  case round =>
    clear HF
    obtain ⟨k, hk, rfl, I⟩ := hrel
    by_cases hlt : k < n
    · obtain ⟨b, off, hx, hb, s0, s1⟩ := HR.out.at HN.out hlt
      cases hx
      have hbl := HM.out b hb
      have hblr : b < wr.heap.size := by have := I.out.bel.size; omega
      rw [← I.out.bel.cell (p := ⟨b, off + k * 2, none⟩) hbl] at s0
      rw [← I.out.bel.cell (p := ⟨b, off + k * 2 + 1, none⟩) hbl] at s1
      obtain ⟨z0, u0, d0, _⟩ := I.out.fill (k * 2) (by omega)
      obtain ⟨z1, u1, d1, _⟩ := I.out.fill (k * 2 + 1) (by omega)
      have hv0 := hide (valR_0 rs k)
      have hv1 := hide (valR_1 rs k)
      generalize (rs.getD k (0, 0)).1 = f at s0 hv0
      generalize (rs.getD k (0, 0)).2 = t at s1 hv1
      have hwlt := I.out.lt
      have hlt' : (k : Int) < (n : Int) := by omega
      have hk0 : (0 : Int) ≤ (k : Int) := by omega
      go_wp2
      go_region_with (go_at_call 8; refine (newTermRun_any _ _ _).mono ?_; rintro e w' ⟨rfl, rfl⟩)
      all_goals go_wp2
      all_goals
        go_roundw
        case rel =>
          refine ⟨k + 1, by omega, by go_num, ?_⟩
          have h2 := (I.out.fill.put hv0.out.symm).put hv1.out.symm
          rw [show k * 2 + 1 + 1 = (k + 1) * 2 by omega] at h2
          exact RunFill.mk (h2.same (Below.heap_alloc _ _ _ (by simpa using hwlt))) ((((I.out.bel.setCell (Nat.le_refl _) _).setCell (Nat.le_refl _) _).alloc (by simpa using I.out.bel.size) _).drew) (by simp; omega)
        case measure => simp [intOf]; omega
    · obtain rfl : k = n := by omega
      obtain ⟨wA, rfl⟩ : ∃ wA, wA = wr := ⟨_, rfl⟩
      have hsA := I.out.bel.size
      have hltA := I.out.lt
      go_wp2_with (at_make; refine wpList_make_full _ rfl _ _ 43 rfl wA.heap.size 52 i8 (.agg #[.int .u64 0, .int .u64 0, .int .u64 0, .int .u64 0, .slice none 0 0, .int .u64 0, .int .u64 0, .int .u64 0]) 8 Try.underlying43 hi8 hz80 hz81 _ _ _ _ m rfl rfl (by omega) (by omega) ?b4 ?b5 (Nat.le_refl _) ?_)
      case b4 => rw [hz82]; omega
      case b5 => unfold maxLen; omega
      intro w0 hown0 hgrow0
      have HF : Hid (EntFill (fun k => wA.heap.size < k) true wA w0 wA.heap.size m es 0) := by
        have hf := Fill.start (val := fun _ => .bool true) hown0
        have hb : Below wA.heap.size wA w0 := (Below.refl _ _).grown hgrow0 (Nat.le_refl _) (fun k h => by cases h)
        refine ⟨fun o ho => ?_, fun i hi => by omega, hb, ?_⟩
        · obtain ⟨h1, v, h2, _⟩ := hf o ho; exact ⟨h1, v, h2⟩
        · rcases hown0.2 with ⟨h, _⟩ | ⟨g, cap, cur, hv, _, hg, _⟩
          · cases h
          · cases hv
            rcases Nat.lt_or_ge wA.heap.size w0.heap.size with h | h
            · exact h
            · rw [Array.getElem?_eq_none h] at hg; cases hg
      clear hown0 hgrow0
      go_wp2
      go_loopw [12, 13] (fun kp i wr => ∃ j : Nat, j ≤ m ∧ i = .int .i64 j ∧ kp = .int .i64 (keptTo es j : Nat) ∧ Hid (EntFill (fun k => wA.heap.size < k) true wA wr wA.heap.size m es j)) (fun _ i _ => m - (intOf i).toNat)
      case atStart => exact ⟨0, Nat.zero_le _, rfl, by rw [keptTo_zero]; rfl, HF⟩
      case round =>
        clear HF
        obtain ⟨j, hj, rfl, rfl, J⟩ := hrel
        have hkl := HKL.out j (by rw [HMM.out]; exact hj)
        by_cases hlt : j < m
        · obtain ⟨b, off, hx, hb, pa, pc, hE, _⟩ := HEN.out.at HMM.out hlt
          cases hx
          have hEA := hE.later hb (same_below I.out.bel (fun k hk _ => HM.out k hk))
          have HE := hide (hEA.later hb (same_below J.out.bel (fun k hk _ => by have := HM.out k hk; omega)))
          have hby := HBY.out j (by rw [HMM.out]; exact hlt)
          have HKS := hide (keptTo_succ es j (by rw [HMM.out]; exact hlt))
          clear hE hEA
          obtain ⟨e, he⟩ : ∃ e, es.getD j noEnt = e := ⟨_, rfl⟩
          have HEE := hide he
          rw [he] at HE hby HKS
          clear he
          generalize keptTo es j = kj at hkl HKS
          have s0 := HE.out.c0
          have s1 := HE.out.c1
          have s2 := HE.out.c2
          have s3 := HE.out.c3
          have s4 := HE.out.c4
          have s5 := HE.out.c5
          have s6 := HE.out.c6
          have s7 := HE.out.c7
          obtain ⟨z0, u0, d0⟩ := J.out.dest hlt 0 (by omega)
          obtain ⟨z1, u1, d1⟩ := J.out.dest hlt 1 (by omega)
          obtain ⟨z2, u2, d2⟩ := J.out.dest hlt 2 (by omega)
          obtain ⟨z3, u3, d3⟩ := J.out.dest hlt 3 (by omega)
          obtain ⟨z4, u4, d4⟩ := J.out.dest hlt 4 (by omega)
          obtain ⟨z5, u5, d5⟩ := J.out.dest hlt 5 (by omega)
          obtain ⟨z6, u6, d6⟩ := J.out.dest hlt 6 (by omega)
          obtain ⟨z7, u7, d7⟩ := J.out.dest hlt 7 (by omega)
          rw [Nat.add_zero] at z0 d0
          have hwlt := J.out.lt
          obtain ⟨X, hX⟩ : ∃ X, X = e.bs.map (Value.int .u8) := ⟨_, rfl⟩
          have HX := hide hX
          obtain ⟨L, hL⟩ : ∃ L, e.bs.length = L := ⟨_, rfl⟩
          have HLL := hide hL
          rw [hL] at s4 hby HKS
          have HL : Hid (X.length = L) := by show _ = _; rw [hX, List.length_map, hL]
          have H1 : Hid (∀ v ∈ X, v.oneCell' = true) := by
            show ∀ v ∈ X, v.oneCell' = true
            intro v hv
            rw [hX] at hv
            obtain ⟨k, _, rfl⟩ := List.mem_map.1 hv
            rfl
          have HSRC : Hid (∀ W, Below wr.heap.size wr W → 0 < X.length → ∃ ad, pa = some ad ∧ ∀ j v, X[j]? = some v → W.cell? (ad.add j) = some v) := by
            show ∀ W, Below wr.heap.size wr W → 0 < X.length → ∃ ad, pa = some ad ∧ ∀ j v, X[j]? = some v → W.cell? (ad.add j) = some v
            intro W hW hp
            rw [hX, List.length_map] at hp
            obtain ⟨b, off, hx, _, _⟩ := HE.out.bytes.at rfl hp
            refine ⟨_, hx, fun j v hv => ?_⟩
            have hj : j < e.bs.length := by have := (List.getElem?_eq_some_iff.1 hv).1; rw [hX, List.length_map] at this; exact this
            obtain ⟨b', off', hx', _, hc⟩ := HE.out.bytes.at rfl hj
            rw [hx] at hx'
            cases hx'
            rw [WideShapes.add_plain, hW.cell (block_lt hc), hc]
            rw [hX, List.getElem?_map, List.getElem?_eq_getElem hj] at hv
            simpa [List.getD, hj] using hv
          clear hX hL
          have HCN : Hid (X.length = Nat.min L L) := by show _ = _; rw [HL.out]; simp
          go_wp2_with (at_make; refine wpList_make_full _ rfl _ _ 49 rfl (wr.heap.size + 1) 5 i5 (.int .u8 0) 1 Try.underlying49 hi5 hz50 hz51 _ _ _ _ L rfl rfl (by omega) (by omega) ?b6 ?b7 (by simp) ?_)
          case b6 => rw [hz52]; omega
          case b7 => unfold maxLen; omega
          intro w2 hown2 hgrow2
          rw [toList_madeCells_one] at hown2
          have HG2 := hide (made_block hown2)
          have hb2 : Below (wr.heap.size + 1) _ w2 := (Below.refl _ _).grown hgrow2 (by simp) (fun k h => by cases h)
          have HB2 := hide hb2
          obtain ⟨hx2, _, _, _, hbw2, _⟩ := boxed hb2
          have p4 : w2.cell? ⟨wr.heap.size, 4, none⟩ = some (.slice pa L pc) := hx2 4
          have HSR2 := hide (HSRC.out w2 hbw2)
          clear hown2 hgrow2 hb2 hx2 hbw2
          go_wp2_with (refine wpList_copy_splice rfl _ _ 49 49 rfl 5 Try.underlying49 hsz _ _ _ _ _ _ (by rfl) (by rfl) (wr.heap.size + 1) 0 _ 5 HG2.out X HCN.out (fun hp => ⟨rfl, HSR2.out hp⟩) (by rw [HL.out]; simp) H1.out (wr.heap.size + 1) _ HB2.out (Nat.le_refl _) ?_)
          intro w3 HG3 hb3
          have HRU : Hid (w3.heap[wr.heap.size + 1]? = some (.cells (e.bs.map (Value.int .u8)).toArray 5 (0, 0))) := by
            have h := HG3.out
            rw [splice_all _ _ (by rw [HL.out]; simp), HX.out] at h
            exact h
          obtain ⟨hx3, _, ho3, hf3, hbw3, hsz3⟩ := boxed hb3
          have HBW3 := hide hbw3
          have hsz4 : wr.heap.size + 1 < w3.heap.size := by
            rcases Nat.lt_or_ge (wr.heap.size + 1) w3.heap.size with h | h
            · exact h
            · have h' := HRU.out; rw [Array.getElem?_eq_none h] at h'; cases h'
          have p0 : w3.cell? ⟨wr.heap.size, 0, none⟩ = some (.int .u64 e.p) := hx3 0
          have p1 : w3.cell? ⟨wr.heap.size, 1, none⟩ = some (.int .u64 e.m) := hx3 1
          have p2 : w3.cell? ⟨wr.heap.size, 2, none⟩ = some (.int .u64 e.i) := hx3 2
          have p3 : w3.cell? ⟨wr.heap.size, 3, none⟩ = some (.int .u64 e.s) := hx3 3
          have p5 : w3.cell? ⟨wr.heap.size, 5, none⟩ = some (.int .u64 e.k) := hx3 5
          have p6 : w3.cell? ⟨wr.heap.size, 6, none⟩ = some (.int .u64 e.t) := hx3 6
          have p7 : w3.cell? ⟨wr.heap.size, 7, none⟩ = some (.int .u64 e.v) := hx3 7
          clear s0 s1 s2 s3 s4 s5 s6 s7 p4 HG3 hb3 hx3 hbw3 hsz3 HG2 HB2 HSR2
          rw [← ho3 _ _ hwlt] at d0 d1 d2 d3 d4 d5 d6 d7
          rw [← hf3 _ _ hwlt] at z0 z1 z2 z3 z4 z5 z6 z7
          clear ho3 hf3
          have hwl3 : wA.heap.size < w3.heap.size := by omega
          go_wp2_with fail
          refine (newEntry_any _ _ _ _ _ _ _ _ _ _ _).mono ?_
          rintro _ w4 ⟨rfl, rfl⟩
          go_wp2
          go_roundw
          case rel =>
            refine ⟨j + 1, by omega, by go_num, by rw [HKS.out]; go_num, ?_⟩
            have h3 := J.out.later (Same.all HBW3.out) (J.out.bel.trans (HBW3.out.mono J.out.bel.size)) HBW3.out.size
            have hby3 : BytesAt (fun k => wA.heap.size < k) w3 (some ⟨wr.heap.size + 1, 0, none⟩) e.bs := BytesAt.of_block HRU.out (by omega)
            have h := h3.put (pa := some ⟨wr.heap.size + 1, 0, none⟩) (pc := L) hlt (by omega) (Nat.le_refl _) HEE.out hby3 (fun h => by cases h) (fun _ => HLL.out.symm)
            rw [HLL.out] at h
            exact h.later (Same.all ((Below.refl _ _).alloc (Nat.le_refl _) _)) (h.bel.alloc h.bel.size _) (by rw [World.size_alloc]; exact Nat.le_succ _)
          case measure => simp [intOf]; omega
        · obtain rfl : j = m := by omega
          go_wp2_with fail
          refine (newEntryLog_any _ _ _ _ _ _ _ _ _ _).mono ?_
          rintro e w' ⟨rfl, rfl⟩
          go_wp2
          go_ret
          have hw := J.out.bel.size
          have hal : ∀ o, Below wr.heap.size wr (wr.alloc o) := fun o => (Below.refl _ _).alloc (Nat.le_refl _) o
          refine ⟨wr.heap.size, some ⟨w.heap.size, 0, none⟩, some ⟨wA.heap.size, 0, none⟩, rfl, heap_alloc_new _ _, ?_, ?_, ((I.out.bel.trans (J.out.bel.mono hsA)).alloc (by omega) _), by omega⟩
          · have h1 : RunsAt (fun k => w.heap.size ≤ k ∧ k < wr.heap.size) wA (some ⟨w.heap.size, 0, none⟩) rs := RunsAt.filled (by rw [HN.out]; exact I.out.fill) ⟨Nat.le_refl _, by omega⟩
            exact (h1.later (Same.all J.out.bel)).later (Same.all (hal _))
          · have h1 : EntsAt (fun k => w.heap.size ≤ k) true wr (some ⟨wA.heap.size, 0, none⟩) es := EntsAt.filled (M := fun k => wA.heap.size < k) (by rw [HMM.out]; exact J.out) (fun k hk => by omega) (by omega)
            exact h1.bound.later (Same.all (hal _))
end Go.Proofs.Qxb6605855a
