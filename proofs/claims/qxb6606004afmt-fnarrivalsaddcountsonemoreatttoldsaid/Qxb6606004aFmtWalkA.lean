import Derived.Test.Qxb6606004aFmtRows
import Derived.Test.Qxb6606004aFmtPlain
import Derived.WalkKit
import Derived.WalkSpells
import Derived.Lib.SliceRun
namespace Go.Proofs.Qxb6606004aFmt
open Go.RowKit

theorem Tryf.info2 : (Tryf.prog.info? 2).map (fun i => (i.zero, i.size, i.bytes)) = some (some (.int .i64 0), 1, 8) := by kernel_rfl
theorem Tryf.info3 : (Tryf.prog.info? 3).map (fun i => (i.zero, i.size, i.bytes)) = some (some (.int .i64 0), 1, 8) := by kernel_rfl
theorem Tryf.info52 : (Tryf.prog.info? 52).map (fun i => (i.zero, i.size, i.bytes)) = some (some (.int .i64 0), 1, 8) := by kernel_rfl

theorem cloneI64_nil (w : World) : Calls Tryf.prog 8 #[.slice none 0 0] w fun e w' => e = .returned (.slice none 0 0) ∧ w' = w := by
  have q22 := fun (w : World) (a : Option Addr) (n c n' c' : Nat) => Lib.run_eql_slice_nil (P := Tryf.prog) w _ _ a n c n' c' Tryf.underlying22
  go_enter Tryf.func8, Tryf.ntmps8
  go_wp2
  go_ret
  exact ⟨rfl, rfl⟩

set_option maxHeartbeats 400000 in
theorem cloneI64_some (x : Addr) (cap : Nat) (xs : List Int) (w : World) (hlen : xs.length ≤ 1048576) (hc : RowAt w (some x) xs) :
    Calls Tryf.prog 8 #[.slice (some x) xs.length cap] w fun e w' => e = .returned (.slice (some ⟨w.heap.size, 0, none⟩) xs.length xs.length) ∧
      w'.ownsRow w.heap.size 2 1 (.slice (some ⟨w.heap.size, 0, none⟩) xs.length xs.length) xs.length (xs.map (Value.int .i64)) ∧ Below w.heap.size w w' := by
  obtain ⟨i0, hi, hz0, hz1, hz2⟩ := info_parts Tryf.info2
  have q22 := fun (w : World) (a : Option Addr) (n c n' c' : Nat) => Lib.run_eql_slice_nil (P := Tryf.prog) w _ _ a n c n' c' Tryf.underlying22
  obtain ⟨n, hn⟩ : ∃ n, xs.length = n := ⟨_, rfl⟩
  have HN : Hid _ := hn
  rw [hn] at hlen ⊢
  clear hn
  go_enter Tryf.func8, Tryf.ntmps8
  go_wp2_with (at_make; refine wpList_make_full _ rfl _ _ 22 rfl w.heap.size 2 i0 (.int .i64 0) 1 Tryf.underlying22 hi hz0 hz1 _ _ _ _ n rfl rfl (by omega) (by omega) ?b2 ?b3 (Nat.le_refl _) ?_)
  case b2 => rw [hz2]; omega
  case b3 => unfold maxLen; omega
  intro w0 hown0 hgrow0
  rw [toList_madeCells_one] at hown0
  have hbel0 : Below w.heap.size w w0 := (Below.refl _ _).grown hgrow0 (Nat.le_refl _) (fun k h => by cases h)
  clear hgrow0
  go_wp2
  go_loopw [4] (fun i wr => ∃ k : Nat, k ≤ n ∧ i = .int .i64 k ∧ wr.ownsRow w.heap.size 2 1 (.slice (some ⟨w.heap.size, 0, none⟩) n n) n (fillTo (xs.map (Value.int .i64)) (.int .i64 0) k) ∧ Below w.heap.size w wr) (fun i _ => n - (intOf i).toNat)
  case atStart => exact ⟨0, Nat.zero_le _, rfl, by rw [fillTo_zero, List.length_map, HN.out]; exact hown0, hbel0⟩
  case round =>
    clear hown0 hbel0
    obtain ⟨k, hk, rfl, hown, hbel⟩ := hrel
    by_cases hlt : k < n
    · obtain ⟨b, off, hx, hb, hsrc⟩ := hc.at HN.out hlt
      cases hx
      rw [← hbel.cell hb] at hsrc
      obtain ⟨hdst, hfz, hst⟩ := owns_step (by rw [List.length_map, HN.out]) hlt (getD_some xs k n HN.out hlt) hown
      generalize xs.getD k 0 = x at hsrc hst
      clear hown hc
      have HS : Hid _ := hst
      clear hst
      go_wp2
      go_roundw
      case rel => exact ⟨k + 1, by omega, by go_num, HS.out, hbel.setCell (Nat.le_refl _) _⟩
      case measure => simp [intOf]; omega
    · obtain rfl : k = n := by omega
      go_wp2
      go_ret
      have hf : fillTo (xs.map (Value.int .i64)) (.int .i64 0) k = xs.map (Value.int .i64) := by rw [show k = (xs.map (Value.int .i64)).length from by rw [List.length_map, HN.out], fillTo_all]
      rw [hf] at hown
      exact ⟨rfl, hown, hbel⟩

theorem cloneI64_any (a : Option Addr) (cap : Nat) (xs : List Int) (w : World) (hlen : xs.length ≤ 1048576) (hc : RowAt w a xs) (h0 : a = none → cap = 0) :
    Calls Tryf.prog 8 #[.slice a xs.length cap] w fun e w' => ∃ a' c', e = .returned (.slice a' xs.length c') ∧ RowAt w' a' xs ∧ (a' = none → c' = 0) ∧ Below w.heap.size w w' := by
  rcases a with _ | x
  · obtain rfl : xs = [] := by rcases hc with h | ⟨b, off, h, _⟩; exact h; cases h
    rw [h0 rfl]
    refine (cloneI64_nil w).mono ?_
    rintro e w' ⟨rfl, rfl⟩
    exact ⟨none, 0, rfl, .inl rfl, fun _ => rfl, Below.refl _ _⟩
  · refine (cloneI64_some x cap xs w hlen hc).mono ?_
    rintro e w' ⟨rfl, hown, hb⟩
    exact ⟨_, _, rfl, RowAt.owned rfl hown, (fun h => by cases h), hb⟩

theorem cloneInt_nil (w : World) : Calls Tryf.prog 9 #[.slice none 0 0] w fun e w' => e = .returned (.slice none 0 0) ∧ w' = w := by
  have q22 := fun (w : World) (a : Option Addr) (n c n' c' : Nat) => Lib.run_eql_slice_nil (P := Tryf.prog) w _ _ a n c n' c' Tryf.underlying23
  go_enter Tryf.func9, Tryf.ntmps9
  go_wp2
  go_ret
  exact ⟨rfl, rfl⟩

set_option maxHeartbeats 400000 in
theorem cloneInt_some (x : Addr) (cap : Nat) (xs : List Int) (w : World) (hlen : xs.length ≤ 1048576) (hc : RowAt w (some x) xs) :
    Calls Tryf.prog 9 #[.slice (some x) xs.length cap] w fun e w' => e = .returned (.slice (some ⟨w.heap.size, 0, none⟩) xs.length xs.length) ∧
      w'.ownsRow w.heap.size 3 1 (.slice (some ⟨w.heap.size, 0, none⟩) xs.length xs.length) xs.length (xs.map (Value.int .i64)) ∧ Below w.heap.size w w' := by
  obtain ⟨i0, hi, hz0, hz1, hz2⟩ := info_parts Tryf.info3
  have q22 := fun (w : World) (a : Option Addr) (n c n' c' : Nat) => Lib.run_eql_slice_nil (P := Tryf.prog) w _ _ a n c n' c' Tryf.underlying23
  obtain ⟨n, hn⟩ : ∃ n, xs.length = n := ⟨_, rfl⟩
  have HN : Hid _ := hn
  rw [hn] at hlen ⊢
  clear hn
  go_enter Tryf.func9, Tryf.ntmps9
  go_wp2_with (at_make; refine wpList_make_full _ rfl _ _ 23 rfl w.heap.size 3 i0 (.int .i64 0) 1 Tryf.underlying23 hi hz0 hz1 _ _ _ _ n rfl rfl (by omega) (by omega) ?b2 ?b3 (Nat.le_refl _) ?_)
  case b2 => rw [hz2]; omega
  case b3 => unfold maxLen; omega
  intro w0 hown0 hgrow0
  rw [toList_madeCells_one] at hown0
  have hbel0 : Below w.heap.size w w0 := (Below.refl _ _).grown hgrow0 (Nat.le_refl _) (fun k h => by cases h)
  clear hgrow0
  go_wp2
  go_loopw [4] (fun i wr => ∃ k : Nat, k ≤ n ∧ i = .int .i64 k ∧ wr.ownsRow w.heap.size 3 1 (.slice (some ⟨w.heap.size, 0, none⟩) n n) n (fillTo (xs.map (Value.int .i64)) (.int .i64 0) k) ∧ Below w.heap.size w wr) (fun i _ => n - (intOf i).toNat)
  case atStart => exact ⟨0, Nat.zero_le _, rfl, by rw [fillTo_zero, List.length_map, HN.out]; exact hown0, hbel0⟩
  case round =>
    clear hown0 hbel0
    obtain ⟨k, hk, rfl, hown, hbel⟩ := hrel
    by_cases hlt : k < n
    · obtain ⟨b, off, hx, hb, hsrc⟩ := hc.at HN.out hlt
      cases hx
      rw [← hbel.cell hb] at hsrc
      obtain ⟨hdst, hfz, hst⟩ := owns_step (by rw [List.length_map, HN.out]) hlt (getD_some xs k n HN.out hlt) hown
      generalize xs.getD k 0 = x at hsrc hst
      clear hown hc
      have HS : Hid _ := hst
      clear hst
      go_wp2
      go_roundw
      case rel => exact ⟨k + 1, by omega, by go_num, HS.out, hbel.setCell (Nat.le_refl _) _⟩
      case measure => simp [intOf]; omega
    · obtain rfl : k = n := by omega
      go_wp2
      go_ret
      have hf : fillTo (xs.map (Value.int .i64)) (.int .i64 0) k = xs.map (Value.int .i64) := by rw [show k = (xs.map (Value.int .i64)).length from by rw [List.length_map, HN.out], fillTo_all]
      rw [hf] at hown
      exact ⟨rfl, hown, hbel⟩

theorem cloneInt_any (a : Option Addr) (cap : Nat) (xs : List Int) (w : World) (hlen : xs.length ≤ 1048576) (hc : RowAt w a xs) (h0 : a = none → cap = 0) :
    Calls Tryf.prog 9 #[.slice a xs.length cap] w fun e w' => ∃ a' c', e = .returned (.slice a' xs.length c') ∧ RowAt w' a' xs ∧ (a' = none → c' = 0) ∧ Below w.heap.size w w' := by
  rcases a with _ | x
  · obtain rfl : xs = [] := by rcases hc with h | ⟨b, off, h, _⟩; exact h; cases h
    rw [h0 rfl]
    refine (cloneInt_nil w).mono ?_
    rintro e w' ⟨rfl, rfl⟩
    exact ⟨none, 0, rfl, .inl rfl, fun _ => rfl, Below.refl _ _⟩
  · refine (cloneInt_some x cap xs w hlen hc).mono ?_
    rintro e w' ⟨rfl, hown, hb⟩
    exact ⟨_, _, rfl, RowAt.owned rfl hown, (fun h => by cases h), hb⟩

theorem toDur_nil (w : World) : Calls Tryf.prog 25 #[.slice none 0 0] w fun e w' => e = .returned (.slice none 0 0) ∧ w' = w := by
  have q22 := fun (w : World) (a : Option Addr) (n c n' c' : Nat) => Lib.run_eql_slice_nil (P := Tryf.prog) w _ _ a n c n' c' Tryf.underlying22
  go_enter Tryf.func25, Tryf.ntmps25
  go_wp2
  go_ret
  exact ⟨rfl, rfl⟩

set_option maxHeartbeats 400000 in
theorem toDur_some (x : Addr) (cap : Nat) (xs : List Int) (w : World) (hlen : xs.length ≤ 1048576) (hc : RowAt w (some x) xs) :
    Calls Tryf.prog 25 #[.slice (some x) xs.length cap] w fun e w' => e = .returned (.slice (some ⟨w.heap.size, 0, none⟩) xs.length xs.length) ∧
      w'.ownsRow w.heap.size 52 1 (.slice (some ⟨w.heap.size, 0, none⟩) xs.length xs.length) xs.length (xs.map (Value.int .i64)) ∧ Below w.heap.size w w' := by
  obtain ⟨i0, hi, hz0, hz1, hz2⟩ := info_parts Tryf.info52
  have q22 := fun (w : World) (a : Option Addr) (n c n' c' : Nat) => Lib.run_eql_slice_nil (P := Tryf.prog) w _ _ a n c n' c' Tryf.underlying22
  obtain ⟨n, hn⟩ : ∃ n, xs.length = n := ⟨_, rfl⟩
  have HN : Hid _ := hn
  rw [hn] at hlen ⊢
  clear hn
  go_enter Tryf.func25, Tryf.ntmps25
  go_wp2_with (at_make; refine wpList_make_full _ rfl _ _ 47 rfl w.heap.size 52 i0 (.int .i64 0) 1 Tryf.underlying47 hi hz0 hz1 _ _ _ _ n rfl rfl (by omega) (by omega) ?b2 ?b3 (Nat.le_refl _) ?_)
  case b2 => rw [hz2]; omega
  case b3 => unfold maxLen; omega
  intro w0 hown0 hgrow0
  rw [toList_madeCells_one] at hown0
  have hbel0 : Below w.heap.size w w0 := (Below.refl _ _).grown hgrow0 (Nat.le_refl _) (fun k h => by cases h)
  clear hgrow0
  go_wp2
  go_loopw [4] (fun i wr => ∃ k : Nat, k ≤ n ∧ i = .int .i64 k ∧ wr.ownsRow w.heap.size 52 1 (.slice (some ⟨w.heap.size, 0, none⟩) n n) n (fillTo (xs.map (Value.int .i64)) (.int .i64 0) k) ∧ Below w.heap.size w wr) (fun i _ => n - (intOf i).toNat)
  case atStart => exact ⟨0, Nat.zero_le _, rfl, by rw [fillTo_zero, List.length_map, HN.out]; exact hown0, hbel0⟩
  case round =>
    clear hown0 hbel0
    obtain ⟨k, hk, rfl, hown, hbel⟩ := hrel
    by_cases hlt : k < n
    · obtain ⟨b, off, hx, hb, hsrc⟩ := hc.at HN.out hlt
      cases hx
      rw [← hbel.cell hb] at hsrc
      obtain ⟨hdst, hfz, hst⟩ := owns_step (by rw [List.length_map, HN.out]) hlt (getD_some xs k n HN.out hlt) hown
      generalize xs.getD k 0 = x at hsrc hst
      clear hown hc
      have HS : Hid _ := hst
      clear hst
      go_wp2
      go_roundw
      case rel => exact ⟨k + 1, by omega, by go_num, HS.out, hbel.setCell (Nat.le_refl _) _⟩
      case measure => simp [intOf]; omega
    · obtain rfl : k = n := by omega
      go_wp2
      go_ret
      have hf : fillTo (xs.map (Value.int .i64)) (.int .i64 0) k = xs.map (Value.int .i64) := by rw [show k = (xs.map (Value.int .i64)).length from by rw [List.length_map, HN.out], fillTo_all]
      rw [hf] at hown
      exact ⟨rfl, hown, hbel⟩

theorem toDur_any (a : Option Addr) (cap : Nat) (xs : List Int) (w : World) (hlen : xs.length ≤ 1048576) (hc : RowAt w a xs) (h0 : a = none → cap = 0) :
    Calls Tryf.prog 25 #[.slice a xs.length cap] w fun e w' => ∃ a' c', e = .returned (.slice a' xs.length c') ∧ RowAt w' a' xs ∧ (a' = none → c' = 0) ∧ Below w.heap.size w w' := by
  rcases a with _ | x
  · obtain rfl : xs = [] := by rcases hc with h | ⟨b, off, h, _⟩; exact h; cases h
    rw [h0 rfl]
    refine (toDur_nil w).mono ?_
    rintro e w' ⟨rfl, rfl⟩
    exact ⟨none, 0, rfl, .inl rfl, fun _ => rfl, Below.refl _ _⟩
  · refine (toDur_some x cap xs w hlen hc).mono ?_
    rintro e w' ⟨rfl, hown, hb⟩
    exact ⟨_, _, rfl, RowAt.owned rfl hown, (fun h => by cases h), hb⟩

theorem fromDur_nil (w : World) : Calls Tryf.prog 27 #[.slice none 0 0] w fun e w' => e = .returned (.slice none 0 0) ∧ w' = w := by
  have q22 := fun (w : World) (a : Option Addr) (n c n' c' : Nat) => Lib.run_eql_slice_nil (P := Tryf.prog) w _ _ a n c n' c' Tryf.underlying47
  go_enter Tryf.func27, Tryf.ntmps27
  go_wp2
  go_ret
  exact ⟨rfl, rfl⟩

set_option maxHeartbeats 400000 in
theorem fromDur_some (x : Addr) (cap : Nat) (xs : List Int) (w : World) (hlen : xs.length ≤ 1048576) (hc : RowAt w (some x) xs) :
    Calls Tryf.prog 27 #[.slice (some x) xs.length cap] w fun e w' => e = .returned (.slice (some ⟨w.heap.size, 0, none⟩) xs.length xs.length) ∧
      w'.ownsRow w.heap.size 2 1 (.slice (some ⟨w.heap.size, 0, none⟩) xs.length xs.length) xs.length (xs.map (Value.int .i64)) ∧ Below w.heap.size w w' := by
  obtain ⟨i0, hi, hz0, hz1, hz2⟩ := info_parts Tryf.info2
  have q22 := fun (w : World) (a : Option Addr) (n c n' c' : Nat) => Lib.run_eql_slice_nil (P := Tryf.prog) w _ _ a n c n' c' Tryf.underlying47
  obtain ⟨n, hn⟩ : ∃ n, xs.length = n := ⟨_, rfl⟩
  have HN : Hid _ := hn
  rw [hn] at hlen ⊢
  clear hn
  go_enter Tryf.func27, Tryf.ntmps27
  go_wp2_with (at_make; refine wpList_make_full _ rfl _ _ 22 rfl w.heap.size 2 i0 (.int .i64 0) 1 Tryf.underlying22 hi hz0 hz1 _ _ _ _ n rfl rfl (by omega) (by omega) ?b2 ?b3 (Nat.le_refl _) ?_)
  case b2 => rw [hz2]; omega
  case b3 => unfold maxLen; omega
  intro w0 hown0 hgrow0
  rw [toList_madeCells_one] at hown0
  have hbel0 : Below w.heap.size w w0 := (Below.refl _ _).grown hgrow0 (Nat.le_refl _) (fun k h => by cases h)
  clear hgrow0
  go_wp2
  go_loopw [4] (fun i wr => ∃ k : Nat, k ≤ n ∧ i = .int .i64 k ∧ wr.ownsRow w.heap.size 2 1 (.slice (some ⟨w.heap.size, 0, none⟩) n n) n (fillTo (xs.map (Value.int .i64)) (.int .i64 0) k) ∧ Below w.heap.size w wr) (fun i _ => n - (intOf i).toNat)
  case atStart => exact ⟨0, Nat.zero_le _, rfl, by rw [fillTo_zero, List.length_map, HN.out]; exact hown0, hbel0⟩
  case round =>
    clear hown0 hbel0
    obtain ⟨k, hk, rfl, hown, hbel⟩ := hrel
    by_cases hlt : k < n
    · obtain ⟨b, off, hx, hb, hsrc⟩ := hc.at HN.out hlt
      cases hx
      rw [← hbel.cell hb] at hsrc
      obtain ⟨hdst, hfz, hst⟩ := owns_step (by rw [List.length_map, HN.out]) hlt (getD_some xs k n HN.out hlt) hown
      generalize xs.getD k 0 = x at hsrc hst
      clear hown hc
      have HS : Hid _ := hst
      clear hst
      go_wp2
      go_roundw
      case rel => exact ⟨k + 1, by omega, by go_num, HS.out, hbel.setCell (Nat.le_refl _) _⟩
      case measure => simp [intOf]; omega
    · obtain rfl : k = n := by omega
      go_wp2
      go_ret
      have hf : fillTo (xs.map (Value.int .i64)) (.int .i64 0) k = xs.map (Value.int .i64) := by rw [show k = (xs.map (Value.int .i64)).length from by rw [List.length_map, HN.out], fillTo_all]
      rw [hf] at hown
      exact ⟨rfl, hown, hbel⟩

theorem fromDur_any (a : Option Addr) (cap : Nat) (xs : List Int) (w : World) (hlen : xs.length ≤ 1048576) (hc : RowAt w a xs) (h0 : a = none → cap = 0) :
    Calls Tryf.prog 27 #[.slice a xs.length cap] w fun e w' => ∃ a' c', e = .returned (.slice a' xs.length c') ∧ RowAt w' a' xs ∧ (a' = none → c' = 0) ∧ Below w.heap.size w w' := by
  rcases a with _ | x
  · obtain rfl : xs = [] := by rcases hc with h | ⟨b, off, h, _⟩; exact h; cases h
    rw [h0 rfl]
    refine (fromDur_nil w).mono ?_
    rintro e w' ⟨rfl, rfl⟩
    exact ⟨none, 0, rfl, .inl rfl, fun _ => rfl, Below.refl _ _⟩
  · refine (fromDur_some x cap xs w hlen hc).mono ?_
    rintro e w' ⟨rfl, hown, hb⟩
    exact ⟨_, _, rfl, RowAt.owned rfl hown, (fun h => by cases h), hb⟩
end Go.Proofs.Qxb6606004aFmt
