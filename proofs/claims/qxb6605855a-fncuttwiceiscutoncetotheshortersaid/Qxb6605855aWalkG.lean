import Derived.Test.Qxb6605855aWalkF
import Derived.Shelf.SlSortCmp.QuietGrown
/-! The sameness of two entries that are the same. -/
namespace Go.Proofs.Qxb6605855a
open Go.RowKit Go.Sort

theorem alloc_below (w : World) (o : Obj) : Below w.heap.size w (w.alloc o) := (Below.refl _ _).alloc (Nat.le_refl _) o
theorem grow_below (w : World) (n : Nat) (os : Array Obj) : Below w.heap.size w (grow (w.drewN n) os) :=
  ⟨rfl, rfl, rfl, by simp [size_grow], fun k hk => heap_grow_old _ _ hk⟩

theorem kind_g (e : Ent) (pa : Option Addr) (L pc : Nat) (w : World) (n : Nat) (os : Array Obj) :
    Calls Try.prog 35 #[.agg #[.int .u64 e.p, .int .u64 e.m, .int .u64 e.i, .int .u64 e.s, .slice pa L pc, .int .u64 e.k, .int .u64 e.t, .int .u64 e.v]] (grow (w.drewN n) os) fun r w' => r = .returned (.int .u64 e.k) ∧ ∃ p : GrownBy, w' = grow (w.drewN p.n) p.os :=
  Calls.grown_of ((entryKind_any e pa L pc _).mono fun _ _ ⟨h1, h2⟩ => ⟨h1, 0, _, h2.trans (alloc_eq_grow _ _)⟩)
theorem term_g (e : Ent) (pa : Option Addr) (L pc : Nat) (w : World) (n : Nat) (os : Array Obj) :
    Calls Try.prog 36 #[.agg #[.int .u64 e.p, .int .u64 e.m, .int .u64 e.i, .int .u64 e.s, .slice pa L pc, .int .u64 e.k, .int .u64 e.t, .int .u64 e.v]] (grow (w.drewN n) os) fun r w' => r = .returned (.int .u64 e.t) ∧ ∃ p : GrownBy, w' = grow (w.drewN p.n) p.os :=
  Calls.grown_of ((entryTerm_any e pa L pc _).mono fun _ _ ⟨h1, h2⟩ => ⟨h1, 0, _, h2.trans (alloc_eq_grow _ _)⟩)
theorem version_g (e : Ent) (pa : Option Addr) (L pc : Nat) (w : World) (n : Nat) (os : Array Obj) :
    Calls Try.prog 37 #[.agg #[.int .u64 e.p, .int .u64 e.m, .int .u64 e.i, .int .u64 e.s, .slice pa L pc, .int .u64 e.k, .int .u64 e.t, .int .u64 e.v]] (grow (w.drewN n) os) fun r w' => r = .returned (.int .u64 e.v) ∧ ∃ p : GrownBy, w' = grow (w.drewN p.n) p.os :=
  Calls.grown_of ((entryVersion_any e pa L pc _).mono fun _ _ ⟨h1, h2⟩ => ⟨h1, 0, _, h2.trans (alloc_eq_grow _ _)⟩)

theorem grown_two {w W : World} {o1 o2 : Obj} (hW : W = (w.alloc o1).alloc o2) (n : Nat) (os : Array Obj) : grow (W.drewN n) os = grow (w.drewN n) ((#[o1] ++ #[o2]) ++ os) := by
  rw [hW, alloc_eq_grow, alloc_eq_grow, grow_grow, ← grow_grow _ _ os]
  rfl

/-- The two boxes of a call. -/
theorem boxes {w : World} (o1 o2 : Array Value) (t1 t2 : TypeId) {W : World} (hW : W = (w.alloc (.cells o1 t1)).alloc (.cells o2 t2)) :
    (∀ j v n os, o1[j]? = some v → (grow (W.drewN n) os).cell? ⟨w.heap.size, j, none⟩ = some v) ∧ (∀ j v n os, o2[j]? = some v → (grow (W.drewN n) os).cell? ⟨w.heap.size + 1, j, none⟩ = some v) ∧ Below w.heap.size w W := by
  have hs : W.heap.size = w.heap.size + 2 := by rw [hW, World.size_alloc, World.size_alloc]
  have b1 : W.heap[w.heap.size]? = some (.cells o1 t1 (0, 0)) := by
    rw [hW, (alloc_below (w.alloc (.cells o1 t1)) _).block _ (by rw [World.size_alloc]; omega)]
    exact heap_alloc_new _ _
  have b2 : W.heap[w.heap.size + 1]? = some (.cells o2 t2 (0, 0)) := by
    have h := heap_alloc_new (w.alloc (.cells o1 t1)) (.cells o2 t2)
    rw [World.size_alloc] at h
    rw [hW]; exact h
  refine ⟨fun j v n os hv => ?_, fun j v n os hv => ?_, ?_⟩
  · exact cell_grown (by show w.heap.size < _; omega) (by rw [cell_of_row W _ j _ _ _ b1]; exact hv) n os
  · exact cell_grown (by show w.heap.size + 1 < _; omega) (by rw [cell_of_row W _ j _ _ _ b2]; exact hv) n os
  · rw [hW]; exact ((Below.refl _ _).alloc (Nat.le_refl _) _).alloc (by rw [World.size_alloc]; omega) _

set_option maxRecDepth 100000 in
set_option maxHeartbeats 3200000 in
theorem sameEntry_any (M N : Nat → Prop) (e : Ent) (pa pb : Option Addr) (ca cb : Nat) (w : World) (hlen : e.bs.length ≤ 1048576) (ha : BytesAt M w pa e.bs) (hb : BytesAt N w pb e.bs) :
    Calls Try.prog 22 #[.agg #[.int .u64 e.p, .int .u64 e.m, .int .u64 e.i, .int .u64 e.s, .slice pa e.bs.length ca, .int .u64 e.k, .int .u64 e.t, .int .u64 e.v], .agg #[.int .u64 e.p, .int .u64 e.m, .int .u64 e.i, .int .u64 e.s, .slice pb e.bs.length cb, .int .u64 e.k, .int .u64 e.t, .int .u64 e.v]] w fun r w' =>
      r = .returned (.bool true) ∧ ∃ q os, w' = grow (w.drewN q) os := by
  have mixed : Try.prog.follows .mixedOrders = true := by kernel_rfl
  have KB : Hid (∀ W n os, Below w.heap.size w W → Calls Try.prog 38 #[.slice pa e.bs.length ca, .slice pb e.bs.length cb] (grow (W.drewN n) os) fun e w' => e = .returned (.bool true) ∧ ∃ p : GrownBy, w' = grow (W.drewN p.n) p.os) :=
    fun W n os h => Calls.grown_of ((sameBytes_any M N pa pb ca cb e.bs _ hlen (ha.later (Same.all (h.trans ((grow_below W n os).mono h.size)))) (hb.later (Same.all (h.trans ((grow_below W n os).mono h.size))))).mono fun _ _ ⟨h1, q, h2⟩ => ⟨h1, q, #[], by rw [h2, grow_empty]⟩)
  obtain ⟨l, hl⟩ : ∃ l, e.bs.length = l := ⟨_, rfl⟩
  rw [hl] at KB ⊢
  clear hl ha hb hlen
  go_enter Try.func22, Try.ntmps22
  go_wp2_with fail
  obtain ⟨W, hW⟩ : ∃ W, W = (w.alloc (.cells #[.int .u64 e.p, .int .u64 e.m, .int .u64 e.i, .int .u64 e.s, .slice pa l ca, .int .u64 e.k, .int .u64 e.t, .int .u64 e.v] 52)).alloc (.cells #[.int .u64 e.p, .int .u64 e.m, .int .u64 e.i, .int .u64 e.s, .slice pb l cb, .int .u64 e.k, .int .u64 e.t, .int .u64 e.v] 54) := ⟨_, rfl⟩
  obtain ⟨f1, f2, hbW⟩ := boxes _ _ _ _ hW
  rw [← hW]
  have HWW := hide hW
  clear hW
  have KW := hide (fun n os => KB.out W n os hbW)
  clear hbW KB
  have x0 := fun n os => f1 0 _ n os rfl
  have x1 := fun n os => f1 1 _ n os rfl
  have x2 := fun n os => f1 2 _ n os rfl
  have x3 := fun n os => f1 3 _ n os rfl
  have x4 := fun n os => f1 4 _ n os rfl
  have x5 := fun n os => f1 5 _ n os rfl
  have x6 := fun n os => f1 6 _ n os rfl
  have x7 := fun n os => f1 7 _ n os rfl
  have y0 := fun n os => f2 0 _ n os rfl
  have y1 := fun n os => f2 1 _ n os rfl
  have y2 := fun n os => f2 2 _ n os rfl
  have y3 := fun n os => f2 3 _ n os rfl
  have y4 := fun n os => f2 4 _ n os rfl
  have y5 := fun n os => f2 5 _ n os rfl
  have y6 := fun n os => f2 6 _ n os rfl
  have y7 := fun n os => f2 7 _ n os rfl
  clear f1 f2
  have q0 : (e.p == e.p) = true := by simp
  have q1 : (e.m == e.m) = true := by simp
  have q2 : (e.i == e.i) = true := by simp
  have q3 : (e.s == e.s) = true := by simp
  have q5 : (e.k == e.k) = true := by simp
  have q6 : (e.t == e.t) = true := by simp
  have q7 : (e.v == e.v) = true := by simp
  go_quiet_grown (first | (go_at_call 35; refine kind_g e _ _ _ W _ _) | (go_at_call 36; refine term_g e _ _ _ W _ _) | (go_at_call 37; refine version_g e _ _ _ W _ _) | (go_at_call 38; refine KW.out _ _))
  go_wp2
  go_ret
  exact ⟨rfl, _, _, grown_two HWW.out _ _⟩

set_option maxRecDepth 100000 in
set_option maxHeartbeats 3200000 in
theorem sameStored_any (M N : Nat → Prop) (e : Ent) (pa pb : Option Addr) (ca cb : Nat) (w : World) (hlen : e.bs.length ≤ 1048576) (ha : BytesAt M w pa e.bs) (hb : BytesAt N w pb e.bs) :
    Calls Try.prog 39 #[.agg #[.int .u64 e.p, .int .u64 e.m, .int .u64 e.i, .int .u64 e.s, .slice pa e.bs.length ca, .int .u64 e.k, .int .u64 e.t, .int .u64 e.v], .agg #[.int .u64 e.p, .int .u64 e.m, .int .u64 e.i, .int .u64 e.s, .slice pb e.bs.length cb, .int .u64 e.k, .int .u64 e.t, .int .u64 e.v]] w fun r w' =>
      r = .returned (.bool true) ∧ ∃ q os, w' = grow (w.drewN q) os := by
  have mixed : Try.prog.follows .mixedOrders = true := by kernel_rfl
  have KB : Hid (∀ W n os, Below w.heap.size w W → Calls Try.prog 38 #[.slice pa e.bs.length ca, .slice pb e.bs.length cb] (grow (W.drewN n) os) fun e w' => e = .returned (.bool true) ∧ ∃ p : GrownBy, w' = grow (W.drewN p.n) p.os) :=
    fun W n os h => Calls.grown_of ((sameBytes_any M N pa pb ca cb e.bs _ hlen (ha.later (Same.all (h.trans ((grow_below W n os).mono h.size)))) (hb.later (Same.all (h.trans ((grow_below W n os).mono h.size))))).mono fun _ _ ⟨h1, q, h2⟩ => ⟨h1, q, #[], by rw [h2, grow_empty]⟩)
  obtain ⟨l, hl⟩ : ∃ l, e.bs.length = l := ⟨_, rfl⟩
  rw [hl] at KB ⊢
  clear hl ha hb hlen
  go_enter Try.func39, Try.ntmps39
  go_wp2_with fail
  obtain ⟨W, hW⟩ : ∃ W, W = (w.alloc (.cells #[.int .u64 e.p, .int .u64 e.m, .int .u64 e.i, .int .u64 e.s, .slice pa l ca, .int .u64 e.k, .int .u64 e.t, .int .u64 e.v] 52)).alloc (.cells #[.int .u64 e.p, .int .u64 e.m, .int .u64 e.i, .int .u64 e.s, .slice pb l cb, .int .u64 e.k, .int .u64 e.t, .int .u64 e.v] 52) := ⟨_, rfl⟩
  obtain ⟨f1, f2, hbW⟩ := boxes _ _ _ _ hW
  rw [← hW]
  have HWW := hide hW
  clear hW
  have KW := hide (fun n os => KB.out W n os hbW)
  clear hbW KB
  have x0 := fun n os => f1 0 _ n os rfl
  have x1 := fun n os => f1 1 _ n os rfl
  have x2 := fun n os => f1 2 _ n os rfl
  have x3 := fun n os => f1 3 _ n os rfl
  have x4 := fun n os => f1 4 _ n os rfl
  have x5 := fun n os => f1 5 _ n os rfl
  have x6 := fun n os => f1 6 _ n os rfl
  have x7 := fun n os => f1 7 _ n os rfl
  have y0 := fun n os => f2 0 _ n os rfl
  have y1 := fun n os => f2 1 _ n os rfl
  have y2 := fun n os => f2 2 _ n os rfl
  have y3 := fun n os => f2 3 _ n os rfl
  have y4 := fun n os => f2 4 _ n os rfl
  have y5 := fun n os => f2 5 _ n os rfl
  have y6 := fun n os => f2 6 _ n os rfl
  have y7 := fun n os => f2 7 _ n os rfl
  clear f1 f2
  have q0 : (e.p == e.p) = true := by simp
  have q1 : (e.m == e.m) = true := by simp
  have q2 : (e.i == e.i) = true := by simp
  have q3 : (e.s == e.s) = true := by simp
  have q5 : (e.k == e.k) = true := by simp
  have q6 : (e.t == e.t) = true := by simp
  have q7 : (e.v == e.v) = true := by simp
  go_quiet_grown (first | (go_at_call 35; refine kind_g e _ _ _ W _ _) | (go_at_call 36; refine term_g e _ _ _ W _ _) | (go_at_call 37; refine version_g e _ _ _ W _ _) | (go_at_call 38; refine KW.out _ _))
  go_wp2
  go_ret
  exact ⟨rfl, _, _, grown_two HWW.out _ _⟩
end Go.Proofs.Qxb6605855a
