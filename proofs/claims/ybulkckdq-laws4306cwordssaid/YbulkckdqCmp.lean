/-
  nat.cmp AND Int.Cmp OF TWO EQUAL NUMBERS, BY THEIR CONTRACTS.
-/
import Derived.Test.YbulkckdqPut
import Derived.Deep.QuietTactic
import Derived.BigQuiet
import Derived.LaidEqlPtr
namespace Go.Proofs.Ybulkckdq
open Go.RowKit

theorem cmp_nil (w : World) : Calls Yba.prog 18 #[.slice none 0 0, .slice none 0 0] w fun e w' => e = .returned (.int .i64 0) ∧ ∃ n, w' = w.drewN n := by
  go_enter Yba.func18, Yba.ntmps18
  go_wp2
  go_ret
  exact ⟨rfl, 0, rfl⟩

set_option maxHeartbeats 1600000 in
theorem cmp_rows (g g2 m c c2 : Nat) (N : List Int) (w : World) (hm : 0 < m) (hmb : m ≤ 20000) (hc : Hid (∀ j, j < m → w.cell? ⟨g, j, none⟩ = some (.int .u64 (N.getD j 0)))) (hc2 : Hid (∀ j, j < m → w.cell? ⟨g2, j, none⟩ = some (.int .u64 (N.getD j 0)))) :
    Calls Yba.prog 18 #[.slice (some ⟨g, 0, none⟩) m c, .slice (some ⟨g2, 0, none⟩) m c2] w fun e w' => e = .returned (.int .i64 0) ∧ ∃ n, w' = w.drewN n := by
  have hm0 : ((m : Int) == 0) = false := by simp; omega
  go_enter Yba.func18, Yba.ntmps18
  go_wp2
  go_loopw [7] (fun i wr => ∃ k n : Nat, k < m ∧ i = .int .i64 k ∧ wr = w.drewN n) (fun i _ => (intOf i).toNat)
  case atStart => exact ⟨m - 1, 0, by omega, by go_num, rfl⟩
  case round =>
    obtain ⟨k, n, hk, rfl, rfl⟩ := hrel
    have x1 := hc.out k hk
    have x2 := hc2.out k hk
    obtain ⟨z, hz⟩ : ∃ z, z = N.getD k 0 := ⟨_, rfl⟩
    rw [← hz] at x1 x2
    have hki : (k : Int) < (m : Int) := by omega
    clear hz
    cases k with
    | zero =>
      rw [show ((0 : Nat) : Int) = 0 from rfl] at hki ⊢
      go_wp2
      go_quiet (fail)
      go_wp2
      go_quiet (fail)
      go_wp2
      go_quiet (fail)
      go_wp2
      go_ret
      exact ⟨rfl, _, by rw [World.drewN_drewN, World.drewN_drewN, World.drewN_drewN]⟩
    | succ j =>
      have hj : (0 : Int) < ((j + 1 : Nat) : Int) := by omega
      go_wp2
      go_quiet (fail)
      go_wp2
      go_roundw
      case rel => exact ⟨j, _, by omega, by go_num, rfl⟩
      case measure => simp [intOf]

theorem Yba.has33 : ∃ j, Yba.prog.info? 33 = some j ∧ j.size ≠ 0 := by
  have h : (Yba.prog.info? 33).map (fun i => i.size) = some 2 := by kernel_rfl
  obtain ⟨i, hi, hs⟩ := Option.map_eq_some_iff.1 h
  exact ⟨i, hi, by omega⟩

theorem nat_cells {w : World} {base : Nat} {g m c : Nat} {C N : List Int} (h : NatAt w base (.slice (some ⟨g, 0, none⟩) m c) m C) (hN : C.take m = N) : Hid (∀ j, j < m → w.cell? ⟨g, j, none⟩ = some (.int .u64 (N.getD j 0))) := by
  intro j hj
  obtain ⟨g', hg', hc⟩ := word_cell h rfl hj
  cases hg'
  rw [hc, hN]

theorem cmp_any {w : World} {b1 b2 m : Nat} {v v2 : Value} {C C2 N : List Int} (h : NatAt w b1 v m C) (h2 : NatAt w b2 v2 m C2) (hN : C.take m = N) (hN2 : C2.take m = N) :
    Calls Yba.prog 18 #[v, v2] w fun e w' => e = .returned (.int .i64 0) ∧ ∃ n, w' = w.drewN n := by
  rcases h.2 with ⟨rfl, rfl, _⟩ | ⟨g, rfl, hm, hmC, _⟩
  · rcases h2.2 with ⟨rfl, _, _⟩ | ⟨g2, rfl, hm2, _⟩
    · exact cmp_nil w
    · omega
  · rcases h2.2 with ⟨rfl, rfl, _⟩ | ⟨g2, rfl, hm2, _⟩
    · omega
    · exact cmp_rows g g2 m _ _ N w hm (by have := h.1; omega) (nat_cells h hN) (nat_cells h2 hN2)

set_option maxHeartbeats 1600000 in
theorem Cmp_any {w : World} {b1 b2 x y m : Nat} {v v2 : Value} {C C2 N : List Int} (h : IntAt w b1 x v m C) (h2 : IntAt w b2 y v2 m C2) (hN : C.take m = N) (hN2 : C2.take m = N) (hne : x ≠ y) :
    Calls Yba.prog 7 #[.pointer (some ⟨x, 0, none⟩), .pointer (some ⟨y, 0, none⟩)] w fun e w' => e = .returned (.int .i64 0) ∧ ∃ n, w' = w.drewN n := by
  obtain ⟨j, hj, hsz⟩ := Yba.has33
  have heq := run_eql_ptr_other (P := Yba.prog) w (tp := 23) (a := ⟨x, 0, none⟩) (b := ⟨y, 0, none⟩) Yba.underlying23 hj hsz (fun e => hne (by cases e; rfl)) h.heap h2.heap
  obtain ⟨c0, c1, _, _⟩ := int_cells h.heap
  obtain ⟨d0, d1, _, _⟩ := int_cells h2.heap
  have HC := hidden fun q t => (cmp_any (natAt_drewN h.nat (q + t)) (natAt_drewN h2.nat (q + t)) hN hN2).mono (R' := fun e w'' => e = .returned (.int .i64 0) ∧ ∃ n, w'' = w.drewN (q + n)) (fun e w'' ⟨he, n, hw⟩ => ⟨he, t + n, by rw [hw, World.drewN_drewN, Nat.add_assoc]⟩)
  clear h h2 hN hN2 hj hsz
  go_enter Yba.func7, Yba.ntmps7
  go_wp2
  go_quiet (fail)
  go_wp2
  go_quiet ((go_at_call 18; exact HC.out _ _))
  go_wp2
  go_ret
  exact ⟨rfl, _, rfl⟩
end Go.Proofs.Ybulkckdq
