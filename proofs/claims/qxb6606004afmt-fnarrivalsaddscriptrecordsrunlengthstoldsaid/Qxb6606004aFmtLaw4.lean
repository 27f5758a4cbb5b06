import Derived.Test.Qxb6606004aFmtStep
namespace Go.Proofs.Qxb6606004aFmt
open Go.RowKit

theorem bytes16 (a : Option Addr) (n c : Nat) (w : World) : Calls Tryf.prog 16 #[.slice a n c] w fun e w' => e = .returned (.bool (decide (n ≤ 1048576))) ∧ w = w' := by
  by_cases h1 : (1048576 : Int) < (n : Int)
  · rw [decide_eq_false (show ¬ n ≤ 1048576 by omega)]
    go_enter Tryf.func16, Tryf.ntmps16
    go_wp2
    go_ret
    exact ⟨rfl, rfl⟩
  · rw [decide_eq_true (show n ≤ 1048576 by omega)]
    go_enter Tryf.func16, Tryf.ntmps16
    go_wp2
    go_ret
    exact ⟨rfl, rfl⟩

theorem newArr_nil (w : World) : Calls Tryf.prog 11 #[.slice none 0 0, .slice none 0 0, .int .i64 0] w fun e w' => ∃ S v0 v1, e = .returned (.pointer (some ⟨S, 0, none⟩)) ∧ ArrAt w.heap.size S v0 v1 [] [] 0 w' ∧ Below w.heap.size w w' := by
  have h := newArr w.heap.size none none 0 0 0 0 [] [] w (by simp) (.inl rfl) (fun _ => rfl) rfl (World.ownsRow_nil _ _ _ _) (Nat.le_refl _)
  refine h.mono ?_
  rintro e w' ⟨S, a', c', rfl, hA, hb, _⟩
  exact ⟨S, _, _, rfl, hA, hb⟩

/-- Two rows of the law's own, apart by their element types: one appended to, the other stands. -/
theorem other_stands {B n m : Nat} {v u : Value} {xs ys : List Value} {w w' : World} {o : Obj} (h1 : w.ownsRow B 2 1 v n xs) (h2 : w.ownsRow B 3 1 u m ys) (hg : (w.alloc o).grownBy w' v.ownBlock) : w'.ownsRow B 3 1 u m ys :=
  ownsRow_of_block h2 (fun g hu => by
    obtain ⟨hlt, _, cur, hc⟩ := ownsRow_lt h2 hu
    rw [hg.block g (by simp; omega) (fun e => ?_), Below.heap_alloc _ _ _ hlt]
    obtain ⟨_, _, cur', hc'⟩ := ownsRow_lt h1 e.symm
    rw [hc] at hc'
    simp at hc')
theorem other_stands' {B n m : Nat} {v u : Value} {xs ys : List Value} {w w' : World} {o : Obj} (h1 : w.ownsRow B 2 1 v n xs) (h2 : w.ownsRow B 3 1 u m ys) (hg : (w.alloc o).grownBy w' u.ownBlock) : w'.ownsRow B 2 1 v n xs :=
  ownsRow_of_block h1 (fun g hu => by
    obtain ⟨hlt, _, cur, hc⟩ := ownsRow_lt h1 hu
    rw [hg.block g (by simp; omega) (fun e => ?_), Below.heap_alloc _ _ _ hlt]
    obtain ⟨_, _, cur', hc'⟩ := ownsRow_lt h2 e.symm
    rw [hc] at hc'
    simp at hc')
theorem below_append {B n e : Nat} {v : Value} {xs : List Value} {w0 w w' : World} {o : Obj} (hb : Below B w0 w) (hB : B ≤ w.heap.size) (h : w.ownsRow B e 1 v n xs) (hg : (w.alloc o).grownBy w' v.ownBlock) : Below B w0 w' :=
  (hb.alloc hB o).grown hg (by simp; omega) (fun k e => (ownsRow_lt h e).2.1)

def wT (ts : List Int) (n k : Nat) : List Int := (wsel ts n k).map fun i => ts.getD i 0
def wU (ts : List Int) (n k : Nat) : List Int := (wsel ts n k).map fun (i : Nat) => (i : Int) + 1
/-- The law's own two rows, k rounds on. -/
structure Wants (B : Nat) (w0 : World) (ts : List Int) (n k : Nat) (v u : Value) (w : World) : Prop where
  rT : w.ownsRow B 2 1 v (wsel ts n k).length ((wT ts n k).map (Value.int .i64))
  rU : w.ownsRow B 3 1 u (wsel ts n k).length ((wU ts n k).map (Value.int .i64))
  bel : Below B w0 w

theorem Wants.drewN {B : Nat} {w0 w : World} {ts : List Int} {n k : Nat} {v u : Value} (h : Wants B w0 ts n k v u w) (q : Nat) : Wants B w0 ts n k v u (w.drewN q) :=
  ⟨ownsRow_of_block h.rT (fun _ _ => rfl), ownsRow_of_block h.rU (fun _ _ => rfl), below_drewN h.bel q⟩
theorem Wants.skip {B : Nat} {w0 w : World} {ts : List Int} {n k : Nat} {v u : Value} (h : Wants B w0 ts n k v u w) (hn : ¬ (k + 1 = n ∨ ts.getD (k + 1) 0 ≠ ts.getD k 0)) : Wants B w0 ts n (k + 1) v u w ∧ (wsel ts n (k + 1)).length = (wsel ts n k).length := by
  have e : wsel ts n (k + 1) = wsel ts n k := by rw [wsel_succ, if_neg hn, List.append_nil]
  exact ⟨⟨by rw [wT, e]; exact h.rT, by rw [wU, e]; exact h.rU, h.bel⟩, by rw [e]⟩
theorem wsel_hit {ts : List Int} {n k : Nat} (h : k + 1 = n ∨ ts.getD (k + 1) 0 ≠ ts.getD k 0) : (wsel ts n (k + 1)).length = (wsel ts n k).length + 1 ∧ wT ts n (k + 1) = wT ts n k ++ [ts.getD k 0] ∧ wU ts n (k + 1) = wU ts n k ++ [(k : Int) + 1] := by
  have e : wsel ts n (k + 1) = wsel ts n k ++ [k] := by rw [wsel_succ, if_pos h]
  exact ⟨by rw [e]; simp, by simp [wT, e], by simp [wU, e]⟩

set_option maxHeartbeats 1600000 in
theorem law4_main (a0 : Option Addr) (c0 : Nat) (ts : List Int) (w : World) (hr0 : RowAt w a0 ts) (h0 : a0 = none → c0 = 0) (hlen : ts.length ≤ 131072) (hnd : nondec ts = true) :
    Calls Tryf.prog 4 #[.slice a0 ts.length c0] w fun e w' => e = .returned (.bool true) ∧ Below w.heap.size w w' := by
  obtain ⟨i2, hi2, hz20, hz21, hz22⟩ := info_parts Tryf.info2
  obtain ⟨i3, hi3, hz30, hz31, hz32⟩ := info_parts Tryf.info3
  have K0 := hide (bytes16 a0 ts.length c0 w)
  have K1 := hide (nondec_any a0 c0 ts w (by omega) hr0)
  rw [decide_eq_true (show ts.length ≤ 1048576 by omega)] at K0
  rw [hnd] at K1
  have K2 := hide (fun q => cloneI64_any a0 c0 ts (w.drewN q) (by omega) (hr0.later rfl (below_drewN (Below.refl _ _) q)) h0)
  have K3 : Hid (∀ B S v0 v1 k w1, ArrAt B S v0 v1 (runT ts k) (runU ts k) 0 w1 → k < ts.length → Calls Tryf.prog 12 #[.pointer (some ⟨S, 0, none⟩), .int .i64 (ts.getD k 0)] w1 fun e w' => e = .returned (.tuple #[]) ∧ ∃ v0' v1', ArrAt B S v0' v1' (runT ts (k + 1)) (runU ts (k + 1)) 0 w' ∧ Below B w1 w') :=
    fun B S v0 v1 k w1 h hk => add_step B S v0 v1 ts k w1 h hnd hk hlen
  clear hr0 h0 hnd
  obtain ⟨n, hn⟩ : ∃ n, ts.length = n := ⟨_, rfl⟩
  have HN := hide hn
  rw [hn] at K0 K1 K2 K3 hlen ⊢
  clear hn
  go_enter Tryf.func4, Tryf.ntmps4
  go_wp2_with fail
  refine K0.out.mono ?_
  rintro e w' ⟨rfl, rfl⟩
  go_wp2_with fail
  refine K1.out.mono ?_
  rintro e w1 ⟨rfl, q, rfl⟩
  go_wp2_with fail
  refine (K2.out q).mono ?_
  rintro e w1 ⟨a2, c2, rfl, hrow, _, hb1⟩
  replace hb1 : Below w.heap.size w w1 := (below_drewN (Below.refl _ w) q).trans hb1
  have HROW := hide hrow
  have HB1 := hide hb1
  clear hrow hb1 K0 K1 K2
  go_wp2_with fail
  refine (newArr_nil w1).mono ?_
  rintro e w2 ⟨S, v0, v1, rfl, hA, hb2⟩
  have HA : Hid (ArrAt w1.heap.size S v0 v1 (runT ts 0) (runU ts 0) 0 w2 ∧ Below w1.heap.size w1 w2) := ⟨hA, hb2⟩
  clear hA hb2
  go_wp2
  go_loopw [4] (fun i wr => ∃ k : Nat, k ≤ n ∧ i = .int .i64 k ∧ Hid (∃ v0 v1, ArrAt w1.heap.size S v0 v1 (runT ts k) (runU ts k) 0 wr ∧ Below w1.heap.size w1 wr)) (fun i _ => n - (intOf i).toNat)
  case atStart => exact ⟨0, Nat.zero_le _, rfl, Exists.intro v0 (Exists.intro v1 HA.out)⟩
  case round =>
    clear HA
    obtain ⟨k, hk, rfl, HI⟩ := hrel
    by_cases hlt : k < n
    · obtain ⟨v0', v1', hA, hb⟩ := HI.out
      obtain ⟨b, off, hx, hbl, hsrc⟩ := (HROW.out.later rfl hb).at HN.out hlt
      cases hx
      have L := hide (K3.out _ S v0' v1' k wr hA hlt)
      have HB := hide hb
      clear hA hb
      generalize ts.getD k 0 = x at hsrc L
      go_wp2_with fail
      refine L.out.mono ?_
      rintro e w3 ⟨rfl, v0'', v1'', hA3, hb3⟩
      have HI3 : Hid (∃ v0 v1, ArrAt w1.heap.size S v0 v1 (runT ts (k + 1)) (runU ts (k + 1)) 0 w3 ∧ Below w1.heap.size w1 w3) := ⟨v0'', v1'', hA3, HB.out.trans hb3⟩
      clear hA3 hb3
      go_wp2
      go_roundw
      case rel => exact ⟨k + 1, by omega, by go_num, HI3⟩
      case measure => simp [intOf]; omega
    · obtain rfl : k = n := by omega
      clear K3
      obtain ⟨wA, rfl⟩ : ∃ wA, wA = wr := ⟨_, rfl⟩
      go_wp2
      go_loopw [5, 6, 7] (fun s5 s6 s7 wl => ∃ (j : Nat) (a5 a6 : Option Addr) (c5 c6 : Nat), j ≤ k ∧ s7 = .int .i64 j ∧ s5 = .slice a5 (wsel ts k j).length c5 ∧ s6 = .slice a6 (wsel ts k j).length c6 ∧ Hid (Wants wA.heap.size wA ts k j (.slice a5 (wsel ts k j).length c5) (.slice a6 (wsel ts k j).length c6) wl)) (fun _ _ i _ => k - (intOf i).toNat)
      case atStart => exact ⟨0, none, none, 0, 0, Nat.zero_le _, rfl, rfl, rfl, Wants.mk (World.ownsRow_nil _ _ _ _) (World.ownsRow_nil _ _ _ _) (Below.refl _ _)⟩
      case round =>
        obtain ⟨j, a5, a6, c5, c6, hj, rfl, rfl, rfl, HW⟩ := hrel
        have hwl := wsel_length ts k j
        by_cases hlt : j < k
        · have hb5 : Hid (Below w1.heap.size w1 wr) := by
            obtain ⟨_, _, _, hb⟩ := HI.out
            exact hb.trans (HW.out.bel.mono hb.size)
          obtain ⟨b, off, hx, hbl, hsrc⟩ := (HROW.out.later rfl hb5.out).at HN.out hlt
          cases hx
          have hlt' : (j : Int) < (k : Int) := by omega
          have hBL := HW.out
          by_cases hlast : j + 1 = k
          · have hg : ((j : Int) + 1 == (k : Int)) = true := by rw [beq_iff_eq]; omega
            obtain ⟨e1, e2, e3⟩ := wsel_hit (ts := ts) (n := k) (k := j) (.inl hlast)
            obtain ⟨L, hL⟩ : ∃ L, (wsel ts k j).length = L := ⟨_, rfl⟩
            rw [hL] at HW e1 hwl ⊢
            have HE := hide (⟨hL, e1, e2, e3⟩ : _ ∧ _ ∧ _ ∧ _)
            clear hlast e1 e2 e3 hL hBL
            generalize ts.getD j 0 = x at hsrc HE
            go_wp2
            go_quiet (fail)
            have HWd := hide (HW.out.drewN nq)
            obtain ⟨W, hW⟩ : ∃ W, W = wr.drewN nq := ⟨_, rfl⟩
            have hsrcW : W.cell? ⟨b, off + j, none⟩ = some (.int .i64 x) := by rw [hW]; simpa using hsrc
            rw [← hW] at HWd ⊢
            clear hW hsrc
            have hBW : wA.heap.size ≤ W.heap.size := HWd.out.bel.size
            have HT := hide HWd.out.rT
            have HU := hide HWd.out.rU
            have HBW := hide HWd.out.bel
            rw [HE.out.1] at HT HU
            go_wp2_with (first
              | (at_builtin; refine wpList_append_lies _ rfl (.tmp 62) (.tmp 67) 22 rfl wA.heap.size 2 i2 (.int .i64 0) 1 8 Tryf.underlying22 hi2 hz20 hz21 hz22 rfl (by omega) _ L _ (by rfl) (HT.out.alloc _) ⟨W.heap.size, 0, none⟩ 1 1 [.int .i64 x] (by rfl) (by rfl) (cell_one_new _ _ _) (by simp [Value.oneCell']) (by omega) (by unfold maxLen; omega) (by omega) (by simp; omega) (W.heap.size + 1) (by simp) ?_; intro g cap w5 hown1 hgrow1 _ _; have HT5 := hide hown1; have HU5 := hide (other_stands HT.out HU.out hgrow1); have HB5 := hide (below_append HBW.out hBW HT.out hgrow1); have hB5 : wA.heap.size ≤ w5.heap.size := HB5.out.size; clear hown1 hgrow1)
              | (at_builtin; refine wpList_append_lies _ rfl (.tmp 69) (.tmp 72) 23 rfl wA.heap.size 3 i3 (.int .i64 0) 1 8 Tryf.underlying23 hi3 hz30 hz31 hz32 rfl (by omega) _ L _ (by rfl) (HU5.out.alloc _) ⟨w5.heap.size, 0, none⟩ 1 1 [.int .i64 ((j : Int) + 1)] (by rfl) (by rfl) (cell_one_new _ _ _) (by simp [Value.oneCell']) (by omega) (by unfold maxLen; omega) (by omega) (by simp; omega) (w5.heap.size + 1) (by simp) ?_; intro g2 cap2 w6 hown2 hgrow2 _ _; have HU6 := hide hown2; have HT6 := hide (other_stands' HT5.out HU5.out hgrow2); have HB6 := hide (below_append HB5.out hB5 HU5.out hgrow2); clear hown2 hgrow2))
            go_roundw
            case rel =>
              refine ⟨j + 1, some ⟨g, 0, none⟩, some ⟨g2, 0, none⟩, cap, cap2, by omega, by go_num, by rw [HE.out.2.1], by rw [HE.out.2.1], ?_⟩
              exact Wants.mk (by rw [HE.out.2.1, HE.out.2.2.1, List.map_append]; exact HT6.out) (by rw [HE.out.2.1, HE.out.2.2.2, List.map_append]; exact HU6.out) HB6.out
            case measure => simp [intOf]; omega
          · have hg : ((j : Int) + 1 == (k : Int)) = false := by rw [beq_eq_false_iff_ne]; omega
            have hlt2 : (j : Int) + 1 < (k : Int) := by omega
            obtain ⟨b', off', hx', _, hsrc2⟩ := (HROW.out.later rfl hb5.out).at HN.out (show j + 1 < k by omega)
            cases hx'
            by_cases hne : ts.getD (j + 1) 0 ≠ ts.getD j 0
            · obtain ⟨e1, e2, e3⟩ := wsel_hit (ts := ts) (n := k) (k := j) (.inr hne)
              obtain ⟨L, hL⟩ : ∃ L, (wsel ts k j).length = L := ⟨_, rfl⟩
              rw [hL] at HW e1 hwl ⊢
              have HE := hide (⟨hL, e1, e2, e3⟩ : _ ∧ _ ∧ _ ∧ _)
              clear hlast e1 e2 e3 hL hBL
              have hyx : (ts.getD (j + 1) 0 != ts.getD j 0) = true := by rw [bne_iff_ne]; exact hne
              clear hne
              generalize ts.getD (j + 1) 0 = y at hsrc2 hyx
              generalize ts.getD j 0 = x at hsrc HE hyx
              go_wp2
              go_quiet (fail)
              have HWd := hide (HW.out.drewN nq)
              obtain ⟨W, hW⟩ : ∃ W, W = wr.drewN nq := ⟨_, rfl⟩
              have hsrcW : W.cell? ⟨b, off + j, none⟩ = some (.int .i64 x) := by rw [hW]; simpa using hsrc
              rw [← hW] at HWd ⊢
              clear hW hsrc
              have hBW : wA.heap.size ≤ W.heap.size := HWd.out.bel.size
              have HT := hide HWd.out.rT
              have HU := hide HWd.out.rU
              have HBW := hide HWd.out.bel
              rw [HE.out.1] at HT HU
              go_wp2_with (first
                | (at_builtin; refine wpList_append_lies _ rfl (.tmp 62) (.tmp 67) 22 rfl wA.heap.size 2 i2 (.int .i64 0) 1 8 Tryf.underlying22 hi2 hz20 hz21 hz22 rfl (by omega) _ L _ (by rfl) (HT.out.alloc _) ⟨W.heap.size, 0, none⟩ 1 1 [.int .i64 x] (by rfl) (by rfl) (cell_one_new _ _ _) (by simp [Value.oneCell']) (by omega) (by unfold maxLen; omega) (by omega) (by simp; omega) (W.heap.size + 1) (by simp) ?_; intro g cap w5 hown1 hgrow1 _ _; have HT5 := hide hown1; have HU5 := hide (other_stands HT.out HU.out hgrow1); have HB5 := hide (below_append HBW.out hBW HT.out hgrow1); have hB5 : wA.heap.size ≤ w5.heap.size := HB5.out.size; clear hown1 hgrow1)
                | (at_builtin; refine wpList_append_lies _ rfl (.tmp 69) (.tmp 72) 23 rfl wA.heap.size 3 i3 (.int .i64 0) 1 8 Tryf.underlying23 hi3 hz30 hz31 hz32 rfl (by omega) _ L _ (by rfl) (HU5.out.alloc _) ⟨w5.heap.size, 0, none⟩ 1 1 [.int .i64 ((j : Int) + 1)] (by rfl) (by rfl) (cell_one_new _ _ _) (by simp [Value.oneCell']) (by omega) (by unfold maxLen; omega) (by omega) (by simp; omega) (w5.heap.size + 1) (by simp) ?_; intro g2 cap2 w6 hown2 hgrow2 _ _; have HU6 := hide hown2; have HT6 := hide (other_stands' HT5.out HU5.out hgrow2); have HB6 := hide (below_append HB5.out hB5 HU5.out hgrow2); clear hown2 hgrow2))
              go_roundw
              case rel =>
                refine ⟨j + 1, some ⟨g, 0, none⟩, some ⟨g2, 0, none⟩, cap, cap2, by omega, by go_num, by rw [HE.out.2.1], by rw [HE.out.2.1], ?_⟩
                exact Wants.mk (by rw [HE.out.2.1, HE.out.2.2.1, List.map_append]; exact HT6.out) (by rw [HE.out.2.1, HE.out.2.2.2, List.map_append]; exact HU6.out) HB6.out
              case measure => simp [intOf]; omega
            · obtain ⟨hW2, hl2⟩ := HW.out.skip (fun h => h.elim hlast (fun h => hne h))
              have HW2 := hide hW2
              have HL2 := hide hl2
              have hyx : (ts.getD (j + 1) 0 != ts.getD j 0) = false := by rw [bne_eq_false_iff_eq]; exact Decidable.of_not_not hne
              clear hne hW2 hl2 hlast hBL
              generalize ts.getD (j + 1) 0 = y at hsrc2 hyx
              generalize ts.getD j 0 = x at hsrc hyx
              generalize (wsel ts k j).length = L at HW HW2 HL2 hwl
              go_wp2
              go_quiet (fail)
              go_wp2
              go_roundw
              case rel => exact ⟨j + 1, a5, a6, c5, c6, by omega, by go_num, by rw [HL2.out], by rw [HL2.out], by rw [HL2.out]; exact HW2.out.drewN nq⟩
              case measure => simp [intOf]; omega
        · obtain rfl : j = k := by omega
          obtain ⟨v0', v1', hA, hb⟩ := HI.out
          obtain ⟨a7, c7, rfl, _, _⟩ := ownsRow_form hA.r0
          obtain ⟨a8, c8, rfl, _, _⟩ := ownsRow_form hA.r1
          rw [runT_length, runU_length] at hA
          have hW := HW.out
          have hA5 := hA.later hW.bel
          have LS := hide (state_any _ S _ _ _ _ _ _ _ _ _ _ hA5 (runT_length ts j) (runU_length ts j) (by have := sel_length ts j; omega) (by have := sel_length ts j; omega))
          have hT := ownsRow_row (show (wT ts j j).length = (wsel ts j j).length by simp [wT]) hW.rT
          have hU := ownsRow_row (show (wU ts j j).length = (wsel ts j j).length by simp [wU]) hW.rU
          rw [show wT ts j j = runT ts j by rw [wT, wsel_all]; rfl] at hT
          rw [show wU ts j j = runU ts j by rw [wU, wsel_all]; rfl] at hU
          rw [wsel_all] at ⊢
          have HBW : Hid (Below w1.heap.size w1 wr) := hb.trans (hW.bel.mono hb.size)
          have HT := hide hT
          have HU := hide hU
          have hsl := sel_length ts j
          have LQ := hide (fun (a1 a2 : Option Addr) (c1 c2 : Nat) (w9 : World) h1 h2 => equalI64_same a1 a2 c1 c2 (runT ts j) w9 (by rw [runT_length]; omega) h1 h2)
          have LR := hide (fun (a1 a2 : Option Addr) (c1 c2 : Nat) (w9 : World) h1 h2 => equalInt_same a1 a2 c1 c2 (runU ts j) w9 (by rw [runU_length]; omega) h1 h2)
          rw [runT_length] at LQ
          rw [runU_length] at LR
          clear hA hb hW hA5 hT hU HW HI
          generalize (sel ts j).length = L at *
          generalize runT ts j = X at *
          generalize runU ts j = U at *
          go_wp2_with fail
          refine LS.out.mono ?_
          rintro e w7 ⟨b0, d0, b1, d1, rfl, h5, h6, hb7⟩
          have H5 := hide h5
          have H6 := hide h6
          replace HT := hide (HT.out.later rfl hb7)
          replace HU := hide (HU.out.later rfl hb7)
          replace HBW := hide (HBW.out.trans (hb7.mono HBW.out.size))
          clear h5 h6 hb7
          go_wp2_with fail
          refine (LQ.out _ _ _ _ w7 H5.out HT.out).mono ?_
          rintro e w8 ⟨rfl, q8, rfl⟩
          go_wp2_with fail
          refine (LR.out _ _ _ _ _ (H6.out.later rfl (below_drewN (Below.refl _ _) q8)) (HU.out.later rfl (below_drewN (Below.refl _ _) q8))).mono ?_
          rintro e w9 ⟨rfl, q9, rfl⟩
          go_wp2
          go_ret
          exact ⟨rfl, below_drewN (HB1.out.trans (HBW.out.mono HB1.out.size)) (q8 + q9)⟩

set_option maxHeartbeats 800000 in
/-- The ways that return at once. -/
theorem law4_out (a0 : Option Addr) (c0 n : Nat) (w : World) (nd : Bool) (hn : n ≤ 1048576 → Calls Tryf.prog 17 #[.slice a0 n c0] w fun e w' => e = .returned (.bool nd) ∧ ∃ q, w' = w.drewN q)
    (h : ¬ (n ≤ 131072 ∧ nd = true)) :
    Calls Tryf.prog 4 #[.slice a0 n c0] w fun e w' => e = .returned (.bool true) ∧ Below w.heap.size w w' := by
  have HN := hide hn
  clear hn
  have K0 := hide (bytes16 a0 n c0 w)
  by_cases hA : n ≤ 1048576
  · rw [decide_eq_true hA] at K0
    by_cases hB : (131072 : Int) < (n : Int)
    · clear h
      go_enter Tryf.func4, Tryf.ntmps4
      go_wp2_with fail
      refine K0.out.mono ?_
      rintro e w' ⟨rfl, rfl⟩
      go_wp2
      go_ret
      exact ⟨rfl, Below.refl _ _⟩
    have hnd : nd = false := by
      cases nd with
      | false => rfl
      | true => exact absurd ⟨by omega, rfl⟩ h
    subst hnd
    clear h
    have K1 := hide (HN.out hA)
    clear HN
    go_enter Tryf.func4, Tryf.ntmps4
    go_wp2_with fail
    refine K0.out.mono ?_
    rintro e w' ⟨rfl, rfl⟩
    go_wp2_with fail
    refine K1.out.mono ?_
    rintro e w1 ⟨rfl, q, rfl⟩
    go_wp2
    go_ret
    exact ⟨rfl, below_drewN (Below.refl _ _) q⟩
  · rw [decide_eq_false hA] at K0
    clear h
    go_enter Tryf.func4, Tryf.ntmps4
    go_wp2_with fail
    refine K0.out.mono ?_
    rintro e w' ⟨rfl, rfl⟩
    go_wp2
    go_ret
    exact ⟨rfl, Below.refl _ _⟩

theorem law4 (a0 : Option Addr) (c0 : Nat) (ts : List Int) (w : World) (hr0 : RowAt w a0 ts) (h0 : a0 = none → c0 = 0) :
    Calls Tryf.prog 4 #[.slice a0 ts.length c0] w fun e w' => e = .returned (.bool true) ∧ Below w.heap.size w w' := by
  by_cases h : ts.length ≤ 131072 ∧ nondec ts = true
  · exact law4_main a0 c0 ts w hr0 h0 h.1 h.2
  · exact law4_out a0 c0 ts.length w (nondec ts) (fun hl => nondec_any a0 c0 ts w hl hr0) h
end Go.Proofs.Qxb6606004aFmt
