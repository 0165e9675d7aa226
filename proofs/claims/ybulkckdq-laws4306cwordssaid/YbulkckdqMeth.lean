/-
  big.Int's METHODS: SetUint64, Lsh, Add, Bits BY THEIR CONTRACTS.
-/
import Derived.Test.YbulkckdqInt
import Derived.Deep.RegionWith
namespace Go.Proofs.Ybulkckdq
open Go.RowKit

theorem setWord_any (x : Int) (base : Nat) (w : World) (hb : base ≤ w.heap.size) :
    Calls Yba.prog 35 #[.slice none 0 0, .int .u64 x] w fun e w' => ∃ v m C, e = .returned v ∧ NatAt w' base v m C ∧ C.take m = one x ∧ Below w.heap.size w w' := by
  by_cases hx : x = 0
  · have hx' : (x == 0) = true := by simpa using hx
    have HX := hidden hx
    clear hx
    go_enter Yba.func35, Yba.ntmps35
    go_wp2
    go_ret
    exact ⟨_, 0, [], rfl, natAt_nil _ _, by simp [one, HX.out], Below.refl _ _⟩
  · have hx' : (x == 0) = false := by simpa using hx
    have HX := hidden hx
    clear hx
    have xz := (Rw.zrow w 1).cell (j := 0) (by simp)
    have fz := (Rw.zrow w 1).free 0
    go_enter Yba.func35, Yba.ntmps35
    go_wp2_with (go_at_call 26; refine (make_one _).mono ?_; rintro e w5 ⟨rfl, h5⟩; rw [h5]; clear h5)
    go_ret
    exact ⟨_, 1, [x], rfl, ⟨by simp, .inr ⟨w.heap.size, rfl, by omega, by simp, hb, (Rw.zrow w 1).set 0 x⟩⟩, by simp [one, HX.out], ((Below.refl _ _).alloc (Nat.le_refl _) _).setCell (Nat.le_refl _) _⟩

theorem setUint64_any (x : Int) (base : Nat) (w : World) (hb : base ≤ w.heap.size) :
    Calls Yba.prog 22 #[.slice none 0 0, .int .u64 x] w fun e w' => ∃ v m C, e = .returned v ∧ NatAt w' base v m C ∧ C.take m = one x ∧ Below w.heap.size w w' := by
  have HS := hidden (setWord_any x base w hb)
  go_enter Yba.func22, Yba.ntmps22
  go_wp2_with (go_at_call 35; refine HS.out.mono ?_; rintro e w5 ⟨v, m, C, rfl, h1, h2, h3⟩; have H1 := hidden h1; have H2 := hidden h2; clear h1 h2)
  go_ret
  exact ⟨v, m, C, rfl, H1.out, H2.out, h3⟩

/-- A big.Int that is not negative: its block, its words. -/
structure IntAt (w : World) (base b : Nat) (v : Value) (m : Nat) (C : List Int) : Prop where
  heap : w.heap[b]? = some (.cells #[.bool false, v] 33 (0, 0))
  nat : NatAt w base v m C

section
variable {w w' : World} {base b : Nat} {v : Value} {m : Nat} {C : List Int}
theorem int_cells (h : w.heap[b]? = some (.cells #[.bool false, v] 33 (0, 0))) : w.cell? ⟨b, 0, none⟩ = some (.bool false) ∧ w.cell? ⟨b, 1, none⟩ = some v ∧ w.frozen? ⟨b, 0, none⟩ = false ∧ w.frozen? ⟨b, 1, none⟩ = false := by
  refine ⟨?_, ?_, ?_, ?_⟩ <;> simp [World.cell?, World.frozen?, h]
theorem int_kept (h : w.heap[b]? = some (.cells #[.bool false, v] 33 (0, 0))) {base2 : Nat} {u : Value} {m : Nat} {C : List Int} (hn : NatAt w base2 u m C) (hg : w.grownBy w' u.ownBlock) : w'.heap[b]? = some (.cells #[.bool false, v] 33 (0, 0)) := by
  rw [hg.block b (lt_of_block h) ?_]
  · exact h
  · rcases hn.2 with ⟨rfl, _⟩ | ⟨g, rfl, _, _, _, hR⟩
    · intro e; cases e
    · intro e
      simp [Value.ownBlock] at e
      subst e
      unfold Rw at hR
      rw [hR] at h
      simp at h
theorem natAt_set (hn : NatAt w base v m C) {cs : Array Value} {fz : Nat × Nat} (h : w.heap[b]? = some (.cells cs 33 fz)) (j : Nat) (u : Value) : NatAt (w.setCell ⟨b, j, none⟩ u) base v m C := by
  refine ⟨hn.1, ?_⟩
  rcases hn.2 with h1 | ⟨g, hv, hm, hmC, hbg, hR⟩
  · exact .inl h1
  · refine .inr ⟨g, hv, hm, hmC, hbg, hR.other (a := ⟨b, j, none⟩) ?_ u⟩
    intro e
    simp only at e
    subst e
    unfold Rw at hR
    rw [hR] at h
    simp at h
theorem NatAt.shape (hn : NatAt w base v m C) : ∃ ao c, v = .slice ao m c := by
  rcases hn.2 with ⟨rfl, rfl, _⟩ | ⟨g, hv, _⟩
  · exact ⟨_, _, rfl⟩
  · exact ⟨_, _, hv⟩
theorem natAt_drewN (hn : NatAt w base v m C) (n : Nat) : NatAt (w.drewN n) base v m C := hn
/-- Behind the two stores of a method's end. -/
theorem int_stored {v' : Value} (h : w.heap[b]? = some (.cells #[.bool false, v] 33 (0, 0))) (hn : NatAt w base v' m C) : IntAt ((w.setCell ⟨b, 1, none⟩ v').setCell ⟨b, 0, none⟩ (.bool false)) base b v' m C := by
  have h1 := heap_setCell_same w b 1 _ 33 v' h
  have h2 := heap_setCell_same (w.setCell ⟨b, 1, none⟩ v') b 0 _ 33 (.bool false) h1
  exact ⟨by rw [h2]; rfl, natAt_set (natAt_set hn h 1 v') h1 0 _⟩
theorem below_stored {B : Nat} {w0 : World} (h : Below B w0 w) (hb : B ≤ b) (v' : Value) : Below B w0 ((w.setCell ⟨b, 1, none⟩ v').setCell ⟨b, 0, none⟩ (.bool false)) :=
  (h.setCell (p := ⟨b, 1, none⟩) hb _).setCell (p := ⟨b, 0, none⟩) hb _
theorem below_nat {w0 : World} (h : Below base w0 w) (hn : NatAt w base v m C) (hg : w.grownBy w' v.ownBlock) (hB : base ≤ w.heap.size) : Below base w0 w' := by
  refine h.grown hg hB ?_
  intro k hk
  rcases hn.2 with ⟨rfl, _⟩ | ⟨g, rfl, _, _, hbg, _⟩
  · cases hk
  · simp [Value.ownBlock] at hk
    omega
end

/-- SetUint64 on a new Int. -/
theorem SetUint64_any (x : Int) (base b : Nat) (w : World) (hh : w.heap[b]? = some (.cells #[.bool false, .slice none 0 0] 33 (0, 0))) (hb : base ≤ w.heap.size) :
    Calls Yba.prog 10 #[.pointer (some ⟨b, 0, none⟩), .int .u64 x] w fun e w' => e = .returned (.pointer (some ⟨b, 0, none⟩)) ∧ ∃ v m C, IntAt w' base b v m C ∧ C.take m = one x ∧ w.grownBy w' (some b) := by
  have HS := hidden (setUint64_any x base w hb)
  obtain ⟨c0, c1, f0, f1⟩ := int_cells hh
  have HH := hidden hh
  clear hh
  go_enter Yba.func10, Yba.ntmps10
  go_wp2_with (go_at_call 22; refine HS.out.mono ?_; rintro e w5 ⟨v, m, C, rfl, h1, h2, h3⟩; obtain ⟨ao, cc, hv⟩ := h1.shape; rw [hv] at h1 ⊢; clear hv; have H1 := hidden h1; have H2 := hidden h2; have H3 := hidden h3; have h5 := (h3.block b (lt_of_block HH.out)).trans HH.out; have HH5 := hidden h5; obtain ⟨d0, d1, e0, e1⟩ := int_cells h5; clear h1 h2 h3 h5)
  go_ret
  exact ⟨rfl, _, m, C, int_stored HH5.out H1.out, H2.out, gb_set (gb_set (gb_of_below H3.out _) _ _) _ _⟩

set_option maxHeartbeats 800000 in
theorem Lsh_any {w : World} {base b : Nat} {v : Value} {m : Nat} {C : List Int} (h : IntAt w base b v m C) (htop : Top (C.take m)) (hb : base ≤ b) (hm : m ≤ 2000) :
    Calls Yba.prog 8 #[.pointer (some ⟨b, 0, none⟩), .pointer (some ⟨b, 0, none⟩), .int .u64 64] w fun e w' => e = .returned (.pointer (some ⟨b, 0, none⟩)) ∧ ∃ v' m' C', IntAt w' base b v' m' C' ∧ C'.take m' = shl (C.take m) ∧ Below base w w' := by
  have hbs := lt_of_block h.heap
  have HS := hidden (natLsh (natAt_drewN h.nat 1) htop (by show base ≤ w.heap.size; omega) hm)
  obtain ⟨c0, c1, f0, f1⟩ := int_cells h.heap
  have HH := hidden h
  clear h htop
  go_enter Yba.func8, Yba.ntmps8
  go_wp2
  go_region_with (go_at_call 19; refine HS.out.mono ?_; rintro e w5 ⟨v5, m5, C5, rfl, h1, h2, h3⟩; obtain ⟨ao, cc, hv⟩ := h1.shape; rw [hv] at h1 ⊢; clear hv; have H1 := hidden h1; have H2 := hidden h2; have H3 := hidden h3; have h5 := int_kept (w := w.drewN 1) HH.out.heap (natAt_drewN HH.out.nat 1) h3; have HH5 := hidden h5; obtain ⟨d0, d1, e0, e1⟩ := int_cells h5; clear h1 h2 h3 h5)
  all_goals
    go_wp2
    go_ret
    exact ⟨rfl, _, m5, C5, int_stored HH5.out H1.out, H2.out, below_stored (below_nat (below_drewN (Below.refl _ _) 1) (natAt_drewN HH.out.nat 1) H3.out (by show base ≤ w.heap.size; omega)) hb _⟩

theorem Bits_any {w : World} {base b : Nat} {v : Value} {m : Nat} {C : List Int} (h : IntAt w base b v m C) :
    Calls Yba.prog 11 #[.pointer (some ⟨b, 0, none⟩)] w fun e w' => e = .returned v ∧ w' = w := by
  obtain ⟨c0, c1, f0, f1⟩ := int_cells h.heap
  clear h
  go_enter Yba.func11, Yba.ntmps11
  go_wp2
  go_ret
  exact ⟨rfl, rfl⟩

set_option maxHeartbeats 1600000 in
theorem Add_any {w : World} {base b b2 : Nat} {v v2 : Value} {m m2 : Nat} {C C2 N : List Int} {x : Int} (h : IntAt w base b v m C) (h2 : IntAt w base b2 v2 m2 C2) (hN : C.take m = shl N) (hN2 : C2.take m2 = one x) (htop : Top N)
    (hw : ∀ y ∈ N, 0 ≤ y ∧ y < 18446744073709551616) (hx0 : 0 ≤ x) (hx1 : x < 18446744073709551616) (hb : base ≤ b) (hm : m ≤ 2000) :
    Calls Yba.prog 9 #[.pointer (some ⟨b, 0, none⟩), .pointer (some ⟨b, 0, none⟩), .pointer (some ⟨b2, 0, none⟩)] w fun e w' => e = .returned (.pointer (some ⟨b, 0, none⟩)) ∧ ∃ v' m' C', IntAt w' base b v' m' C' ∧ C'.take m' = ahead x N ∧ Below base w w' := by
  have hbs := lt_of_block h.heap
  have HS := hidden fun n => natAdd (natAt_drewN h.nat n) (natAt_drewN h2.nat n) hN hN2 htop hw hx0 hx1 (by show base ≤ w.heap.size; omega) hm
  obtain ⟨c0, c1, f0, f1⟩ := int_cells h.heap
  obtain ⟨g0, g1, _, _⟩ := int_cells h2.heap
  have HH := hidden h
  clear h h2 htop hN hN2 hw hx1
  go_enter Yba.func9, Yba.ntmps9
  go_wp2
  go_quiet (fail)
  go_wp2
  go_region_with (go_at_call 20; refine (HS.out (nq + 1)).mono ?_; rintro e w5 ⟨v5, m5, C5, rfl, h1, h2, h3⟩; obtain ⟨ao, cc, hv⟩ := h1.shape; rw [hv] at h1 ⊢; clear hv; have H1 := hidden h1; have H2 := hidden h2; have H3 := hidden h3; have h5 := int_kept (w := w.drewN (nq + 1)) HH.out.heap (natAt_drewN HH.out.nat (nq + 1)) h3; have HH5 := hidden h5; obtain ⟨d0, d1, e0, e1⟩ := int_cells h5; clear h1 h2 h3 h5)
  all_goals
    go_wp2
    all_goals
      go_ret
      exact ⟨rfl, _, m5, C5, int_stored HH5.out H1.out, H2.out, below_stored (below_nat (below_drewN (Below.refl _ _) (nq + 1)) (natAt_drewN HH.out.nat (nq + 1)) H3.out (by show base ≤ w.heap.size; omega)) hb _⟩
end Go.Proofs.Ybulkckdq
