import Derived.Test.Qxb6606004aRows
import Derived.Test.Qxb6606004aPlain
import Derived.WalkKit
import Derived.WalkSpells
import Derived.Lib.SliceRun
namespace Go.Proofs.Qxb6606004a
open Go.RowKit

theorem Try.info2 : (Try.prog.info? 2).map (fun i => (i.zero, i.size, i.bytes)) = some (some (.int .i64 0), 1, 8) := by kernel_rfl
theorem Try.info3 : (Try.prog.info? 3).map (fun i => (i.zero, i.size, i.bytes)) = some (some (.int .i64 0), 1, 8) := by kernel_rfl
theorem Try.info46 : (Try.prog.info? 46).map (fun i => (i.zero, i.size, i.bytes)) = some (some (.int .i64 0), 1, 8) := by kernel_rfl
theorem Try.info40 : (Try.prog.info? 40).map (fun i => (i.zero, i.size, i.bytes)) = some (some (.float .f64 0), 1, 8) := by kernel_rfl

theorem cloneI64_nil (w : World) : Calls Try.prog 9 #[.slice none 0 0] w fun e w' => e = .returned (.slice none 0 0) ∧ w' = w := by
  have q22 := fun (w : World) (a : Option Addr) (n c n' c' : Nat) => Lib.run_eql_slice_nil (P := Try.prog) w _ _ a n c n' c' Try.underlying22
  go_enter Try.func9, Try.ntmps9
  go_wp2
  go_ret
  exact ⟨rfl, rfl⟩

set_option maxHeartbeats 400000 in
theorem cloneI64_some (x : Addr) (cap : Nat) (xs : List Int) (w : World) (hlen : xs.length ≤ 1048576) (hc : RowAt w (some x) xs) :
    Calls Try.prog 9 #[.slice (some x) xs.length cap] w fun e w' => e = .returned (.slice (some ⟨w.heap.size, 0, none⟩) xs.length xs.length) ∧
      w'.ownsRow w.heap.size 2 1 (.slice (some ⟨w.heap.size, 0, none⟩) xs.length xs.length) xs.length (xs.map (Value.int .i64)) ∧ Below w.heap.size w w' := by
  obtain ⟨i0, hi, hz0, hz1, hz2⟩ := info_parts Try.info2
  have q22 := fun (w : World) (a : Option Addr) (n c n' c' : Nat) => Lib.run_eql_slice_nil (P := Try.prog) w _ _ a n c n' c' Try.underlying22
  obtain ⟨n, hn⟩ : ∃ n, xs.length = n := ⟨_, rfl⟩
  have HN : Hid _ := hn
  rw [hn] at hlen ⊢
  clear hn
  go_enter Try.func9, Try.ntmps9
  go_wp2_with (at_make; refine wpList_make_full _ rfl _ _ 22 rfl w.heap.size 2 i0 (.int .i64 0) 1 Try.underlying22 hi hz0 hz1 _ _ _ _ n rfl rfl (by omega) (by omega) ?b2 ?b3 (Nat.le_refl _) ?_)
  case b2 => rw [hz2]; omega
  case b3 => unfold maxLen; omega
  intro w0 hown0 hgrow0
  rw [toList_madeCells_one] at hown0
  have hbel0 : Below w.heap.size w w0 := (Below.refl _ _).grown hgrow0 (Nat.le_refl _) (fun k h => by cases h)
  clear hgrow0
  go_wp2
  go_loopw [4] (fun i wr => ∃ k : Nat, k ≤ n ∧ i = .int .i64 k ∧ wr.ownsRow w.heap.size 2 1 (.slice (some ⟨w.heap.size, 0, none⟩) n n) n (fillTo (xs.map (Value.int .i64)) (.int .i64 0) k) ∧ Below w.heap.size w wr) (fun i _ => n - (intOf i).toNat)
  case atStart => exact ⟨0, Nat.zero_le _, rfl, by rw [fillTo_zero, List.length_map, HN.out]; exact hown0, hbel0⟩
  case round =>
    clear hown0 hbel0
    obtain ⟨k, hk, rfl, hown, hbel⟩ := hrel
    by_cases hlt : k < n
    · obtain ⟨b, off, hx, hb, hsrc⟩ := hc.at HN.out hlt
      cases hx
      rw [← hbel.cell hb] at hsrc
      obtain ⟨hdst, hfz, hst⟩ := owns_step (by rw [List.length_map, HN.out]) hlt (getD_some xs k n HN.out hlt) hown
      generalize xs.getD k 0 = x at hsrc hst
      clear hown hc
      have HS : Hid _ := hst
      clear hst
      go_wp2
      go_roundw
      case rel => exact ⟨k + 1, by omega, by go_num, HS.out, hbel.setCell (Nat.le_refl _) _⟩
      case measure => simp [intOf]; omega
    · obtain rfl : k = n := by omega
      go_wp2
      go_ret
      have hf : fillTo (xs.map (Value.int .i64)) (.int .i64 0) k = xs.map (Value.int .i64) := by rw [show k = (xs.map (Value.int .i64)).length from by rw [List.length_map, HN.out], fillTo_all]
      rw [hf] at hown
      exact ⟨rfl, hown, hbel⟩

theorem cloneI64_any (a : Option Addr) (cap : Nat) (xs : List Int) (w : World) (hlen : xs.length ≤ 1048576) (hc : RowAt w a xs) (h0 : a = none → cap = 0) :
    Calls Try.prog 9 #[.slice a xs.length cap] w fun e w' => ∃ a' c', e = .returned (.slice a' xs.length c') ∧ RowAt w' a' xs ∧ (a' = none → c' = 0) ∧ Below w.heap.size w w' := by
  rcases a with _ | x
  · obtain rfl : xs = [] := by rcases hc with h | ⟨b, off, h, _⟩; exact h; cases h
    rw [h0 rfl]
    refine (cloneI64_nil w).mono ?_
    rintro e w' ⟨rfl, rfl⟩
    exact ⟨none, 0, rfl, .inl rfl, fun _ => rfl, Below.refl _ _⟩
  · refine (cloneI64_some x cap xs w hlen hc).mono ?_
    rintro e w' ⟨rfl, hown, hb⟩
    exact ⟨_, _, rfl, RowAt.owned rfl hown, (fun h => by cases h), hb⟩

theorem cloneInt_nil (w : World) : Calls Try.prog 17 #[.slice none 0 0] w fun e w' => e = .returned (.slice none 0 0) ∧ w' = w := by
  have q22 := fun (w : World) (a : Option Addr) (n c n' c' : Nat) => Lib.run_eql_slice_nil (P := Try.prog) w _ _ a n c n' c' Try.underlying33
  go_enter Try.func17, Try.ntmps17
  go_wp2
  go_ret
  exact ⟨rfl, rfl⟩

set_option maxHeartbeats 400000 in
theorem cloneInt_some (x : Addr) (cap : Nat) (xs : List Int) (w : World) (hlen : xs.length ≤ 1048576) (hc : RowAt w (some x) xs) :
    Calls Try.prog 17 #[.slice (some x) xs.length cap] w fun e w' => e = .returned (.slice (some ⟨w.heap.size, 0, none⟩) xs.length xs.length) ∧
      w'.ownsRow w.heap.size 3 1 (.slice (some ⟨w.heap.size, 0, none⟩) xs.length xs.length) xs.length (xs.map (Value.int .i64)) ∧ Below w.heap.size w w' := by
  obtain ⟨i0, hi, hz0, hz1, hz2⟩ := info_parts Try.info3
  have q22 := fun (w : World) (a : Option Addr) (n c n' c' : Nat) => Lib.run_eql_slice_nil (P := Try.prog) w _ _ a n c n' c' Try.underlying33
  obtain ⟨n, hn⟩ : ∃ n, xs.length = n := ⟨_, rfl⟩
  have HN : Hid _ := hn
  rw [hn] at hlen ⊢
  clear hn
  go_enter Try.func17, Try.ntmps17
  go_wp2_with (at_make; refine wpList_make_full _ rfl _ _ 33 rfl w.heap.size 3 i0 (.int .i64 0) 1 Try.underlying33 hi hz0 hz1 _ _ _ _ n rfl rfl (by omega) (by omega) ?b2 ?b3 (Nat.le_refl _) ?_)
  case b2 => rw [hz2]; omega
  case b3 => unfold maxLen; omega
  intro w0 hown0 hgrow0
  rw [toList_madeCells_one] at hown0
  have hbel0 : Below w.heap.size w w0 := (Below.refl _ _).grown hgrow0 (Nat.le_refl _) (fun k h => by cases h)
  clear hgrow0
  go_wp2
  go_loopw [4] (fun i wr => ∃ k : Nat, k ≤ n ∧ i = .int .i64 k ∧ wr.ownsRow w.heap.size 3 1 (.slice (some ⟨w.heap.size, 0, none⟩) n n) n (fillTo (xs.map (Value.int .i64)) (.int .i64 0) k) ∧ Below w.heap.size w wr) (fun i _ => n - (intOf i).toNat)
  case atStart => exact ⟨0, Nat.zero_le _, rfl, by rw [fillTo_zero, List.length_map, HN.out]; exact hown0, hbel0⟩
  case round =>
    clear hown0 hbel0
    obtain ⟨k, hk, rfl, hown, hbel⟩ := hrel
    by_cases hlt : k < n
    · obtain ⟨b, off, hx, hb, hsrc⟩ := hc.at HN.out hlt
      cases hx
      rw [← hbel.cell hb] at hsrc
      obtain ⟨hdst, hfz, hst⟩ := owns_step (by rw [List.length_map, HN.out]) hlt (getD_some xs k n HN.out hlt) hown
      generalize xs.getD k 0 = x at hsrc hst
      clear hown hc
      have HS : Hid _ := hst
      clear hst
      go_wp2
      go_roundw
      case rel => exact ⟨k + 1, by omega, by go_num, HS.out, hbel.setCell (Nat.le_refl _) _⟩
      case measure => simp [intOf]; omega
    · obtain rfl : k = n := by omega
      go_wp2
      go_ret
      have hf : fillTo (xs.map (Value.int .i64)) (.int .i64 0) k = xs.map (Value.int .i64) := by rw [show k = (xs.map (Value.int .i64)).length from by rw [List.length_map, HN.out], fillTo_all]
      rw [hf] at hown
      exact ⟨rfl, hown, hbel⟩

theorem cloneInt_any (a : Option Addr) (cap : Nat) (xs : List Int) (w : World) (hlen : xs.length ≤ 1048576) (hc : RowAt w a xs) (h0 : a = none → cap = 0) :
    Calls Try.prog 17 #[.slice a xs.length cap] w fun e w' => ∃ a' c', e = .returned (.slice a' xs.length c') ∧ RowAt w' a' xs ∧ (a' = none → c' = 0) ∧ Below w.heap.size w w' := by
  rcases a with _ | x
  · obtain rfl : xs = [] := by rcases hc with h | ⟨b, off, h, _⟩; exact h; cases h
    rw [h0 rfl]
    refine (cloneInt_nil w).mono ?_
    rintro e w' ⟨rfl, rfl⟩
    exact ⟨none, 0, rfl, .inl rfl, fun _ => rfl, Below.refl _ _⟩
  · refine (cloneInt_some x cap xs w hlen hc).mono ?_
    rintro e w' ⟨rfl, hown, hb⟩
    exact ⟨_, _, rfl, RowAt.owned rfl hown, (fun h => by cases h), hb⟩

theorem toDur_nil (w : World) : Calls Try.prog 21 #[.slice none 0 0] w fun e w' => e = .returned (.slice none 0 0) ∧ w' = w := by
  have q22 := fun (w : World) (a : Option Addr) (n c n' c' : Nat) => Lib.run_eql_slice_nil (P := Try.prog) w _ _ a n c n' c' Try.underlying22
  go_enter Try.func21, Try.ntmps21
  go_wp2
  go_ret
  exact ⟨rfl, rfl⟩

set_option maxHeartbeats 400000 in
theorem toDur_some (x : Addr) (cap : Nat) (xs : List Int) (w : World) (hlen : xs.length ≤ 1048576) (hc : RowAt w (some x) xs) :
    Calls Try.prog 21 #[.slice (some x) xs.length cap] w fun e w' => e = .returned (.slice (some ⟨w.heap.size, 0, none⟩) xs.length xs.length) ∧
      w'.ownsRow w.heap.size 46 1 (.slice (some ⟨w.heap.size, 0, none⟩) xs.length xs.length) xs.length (xs.map (Value.int .i64)) ∧ Below w.heap.size w w' := by
  obtain ⟨i0, hi, hz0, hz1, hz2⟩ := info_parts Try.info46
  have q22 := fun (w : World) (a : Option Addr) (n c n' c' : Nat) => Lib.run_eql_slice_nil (P := Try.prog) w _ _ a n c n' c' Try.underlying22
  obtain ⟨n, hn⟩ : ∃ n, xs.length = n := ⟨_, rfl⟩
  have HN : Hid _ := hn
  rw [hn] at hlen ⊢
  clear hn
  go_enter Try.func21, Try.ntmps21
  go_wp2_with (at_make; refine wpList_make_full _ rfl _ _ 41 rfl w.heap.size 46 i0 (.int .i64 0) 1 Try.underlying41 hi hz0 hz1 _ _ _ _ n rfl rfl (by omega) (by omega) ?b2 ?b3 (Nat.le_refl _) ?_)
  case b2 => rw [hz2]; omega
  case b3 => unfold maxLen; omega
  intro w0 hown0 hgrow0
  rw [toList_madeCells_one] at hown0
  have hbel0 : Below w.heap.size w w0 := (Below.refl _ _).grown hgrow0 (Nat.le_refl _) (fun k h => by cases h)
  clear hgrow0
  go_wp2
  go_loopw [4] (fun i wr => ∃ k : Nat, k ≤ n ∧ i = .int .i64 k ∧ wr.ownsRow w.heap.size 46 1 (.slice (some ⟨w.heap.size, 0, none⟩) n n) n (fillTo (xs.map (Value.int .i64)) (.int .i64 0) k) ∧ Below w.heap.size w wr) (fun i _ => n - (intOf i).toNat)
  case atStart => exact ⟨0, Nat.zero_le _, rfl, by rw [fillTo_zero, List.length_map, HN.out]; exact hown0, hbel0⟩
  case round =>
    clear hown0 hbel0
    obtain ⟨k, hk, rfl, hown, hbel⟩ := hrel
    by_cases hlt : k < n
    · obtain ⟨b, off, hx, hb, hsrc⟩ := hc.at HN.out hlt
      cases hx
      rw [← hbel.cell hb] at hsrc
      obtain ⟨hdst, hfz, hst⟩ := owns_step (by rw [List.length_map, HN.out]) hlt (getD_some xs k n HN.out hlt) hown
      generalize xs.getD k 0 = x at hsrc hst
      clear hown hc
      have HS : Hid _ := hst
      clear hst
      go_wp2
      go_roundw
      case rel => exact ⟨k + 1, by omega, by go_num, HS.out, hbel.setCell (Nat.le_refl _) _⟩
      case measure => simp [intOf]; omega
    · obtain rfl : k = n := by omega
      go_wp2
      go_ret
      have hf : fillTo (xs.map (Value.int .i64)) (.int .i64 0) k = xs.map (Value.int .i64) := by rw [show k = (xs.map (Value.int .i64)).length from by rw [List.length_map, HN.out], fillTo_all]
      rw [hf] at hown
      exact ⟨rfl, hown, hbel⟩

theorem toDur_any (a : Option Addr) (cap : Nat) (xs : List Int) (w : World) (hlen : xs.length ≤ 1048576) (hc : RowAt w a xs) (h0 : a = none → cap = 0) :
    Calls Try.prog 21 #[.slice a xs.length cap] w fun e w' => ∃ a' c', e = .returned (.slice a' xs.length c') ∧ RowAt w' a' xs ∧ (a' = none → c' = 0) ∧ Below w.heap.size w w' := by
  rcases a with _ | x
  · obtain rfl : xs = [] := by rcases hc with h | ⟨b, off, h, _⟩; exact h; cases h
    rw [h0 rfl]
    refine (toDur_nil w).mono ?_
    rintro e w' ⟨rfl, rfl⟩
    exact ⟨none, 0, rfl, .inl rfl, fun _ => rfl, Below.refl _ _⟩
  · refine (toDur_some x cap xs w hlen hc).mono ?_
    rintro e w' ⟨rfl, hown, hb⟩
    exact ⟨_, _, rfl, RowAt.owned rfl hown, (fun h => by cases h), hb⟩

theorem cloneF64_nil (w : World) : Calls Try.prog 10 #[.slice none 0 0] w fun e w' => e = .returned (.slice none 0 0) ∧ w' = w := by
  have q22 := fun (w : World) (a : Option Addr) (n c n' c' : Nat) => Lib.run_eql_slice_nil (P := Try.prog) w _ _ a n c n' c' Try.underlying23
  go_enter Try.func10, Try.ntmps10
  go_wp2
  go_ret
  exact ⟨rfl, rfl⟩

set_option maxHeartbeats 400000 in
theorem cloneF64_some (x : Addr) (cap : Nat) (xs : List Nat) (w : World) (hlen : xs.length ≤ 1048576) (hc : RowAtF w (some x) xs) :
    Calls Try.prog 10 #[.slice (some x) xs.length cap] w fun e w' => e = .returned (.slice (some ⟨w.heap.size, 0, none⟩) xs.length xs.length) ∧
      w'.ownsRow w.heap.size 40 1 (.slice (some ⟨w.heap.size, 0, none⟩) xs.length xs.length) xs.length (xs.map (Value.float .f64)) ∧ Below w.heap.size w w' := by
  obtain ⟨i0, hi, hz0, hz1, hz2⟩ := info_parts Try.info40
  have q22 := fun (w : World) (a : Option Addr) (n c n' c' : Nat) => Lib.run_eql_slice_nil (P := Try.prog) w _ _ a n c n' c' Try.underlying23
  have hsf := fun (w : World) (a : Addr) (x : Nat) (m : Mode) => run_store Try.prog w a (.float .f64 x) m rfl
  obtain ⟨n, hn⟩ : ∃ n, xs.length = n := ⟨_, rfl⟩
  have HN : Hid _ := hn
  rw [hn] at hlen ⊢
  clear hn
  go_enter Try.func10, Try.ntmps10
  go_wp2_with (at_make; refine wpList_make_full _ rfl _ _ 23 rfl w.heap.size 40 i0 (.float .f64 0) 1 Try.underlying23 hi hz0 hz1 _ _ _ _ n rfl rfl (by omega) (by omega) ?b2 ?b3 (Nat.le_refl _) ?_)
  case b2 => rw [hz2]; omega
  case b3 => unfold maxLen; omega
  intro w0 hown0 hgrow0
  rw [toList_madeCells_one] at hown0
  have hbel0 : Below w.heap.size w w0 := (Below.refl _ _).grown hgrow0 (Nat.le_refl _) (fun k h => by cases h)
  clear hgrow0
  go_wp2
  go_loopw [4] (fun i wr => ∃ k : Nat, k ≤ n ∧ i = .int .i64 k ∧ wr.ownsRow w.heap.size 40 1 (.slice (some ⟨w.heap.size, 0, none⟩) n n) n (fillTo (xs.map (Value.float .f64)) (.float .f64 0) k) ∧ Below w.heap.size w wr) (fun i _ => n - (intOf i).toNat)
  case atStart => exact ⟨0, Nat.zero_le _, rfl, by rw [fillTo_zero, List.length_map, HN.out]; exact hown0, hbel0⟩
  case round =>
    clear hown0 hbel0
    obtain ⟨k, hk, rfl, hown, hbel⟩ := hrel
    by_cases hlt : k < n
    · obtain ⟨b, off, hx, hb, hsrc⟩ := hc.at HN.out hlt
      cases hx
      rw [← hbel.cell hb] at hsrc
      obtain ⟨hdst, hfz, hst⟩ := owns_step (by rw [List.length_map, HN.out]) hlt (getD_someF xs k n HN.out hlt) hown
      generalize xs.getD k 0 = x at hsrc hst
      clear hown hc
      have HS : Hid _ := hst
      clear hst
      go_wp2
      go_roundw
      case rel => exact ⟨k + 1, by omega, by go_num, HS.out, hbel.setCell (Nat.le_refl _) _⟩
      case measure => simp [intOf]; omega
    · obtain rfl : k = n := by omega
      go_wp2
      go_ret
      have hf : fillTo (xs.map (Value.float .f64)) (.float .f64 0) k = xs.map (Value.float .f64) := by rw [show k = (xs.map (Value.float .f64)).length from by rw [List.length_map, HN.out], fillTo_all]
      rw [hf] at hown
      exact ⟨rfl, hown, hbel⟩

theorem cloneF64_any (a : Option Addr) (cap : Nat) (xs : List Nat) (w : World) (hlen : xs.length ≤ 1048576) (hc : RowAtF w a xs) (h0 : a = none → cap = 0) :
    Calls Try.prog 10 #[.slice a xs.length cap] w fun e w' => ∃ a' c', e = .returned (.slice a' xs.length c') ∧ RowAtF w' a' xs ∧ (a' = none → c' = 0) ∧ Below w.heap.size w w' := by
  rcases a with _ | x
  · obtain rfl : xs = [] := by rcases hc with h | ⟨b, off, h, _⟩; exact h; cases h
    rw [h0 rfl]
    refine (cloneF64_nil w).mono ?_
    rintro e w' ⟨rfl, rfl⟩
    exact ⟨none, 0, rfl, .inl rfl, fun _ => rfl, Below.refl _ _⟩
  · refine (cloneF64_some x cap xs w hlen hc).mono ?_
    rintro e w' ⟨rfl, hown, hb⟩
    exact ⟨_, _, rfl, RowAtF.owned rfl hown, (fun h => by cases h), hb⟩
end Go.Proofs.Qxb6606004a
