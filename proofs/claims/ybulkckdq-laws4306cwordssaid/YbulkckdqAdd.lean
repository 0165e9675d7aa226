/-
  nat.add OF ONE WORD ONTO A NUMBER WHOSE LOWEST WORD IS 0.
-/
import Derived.Test.YbulkckdqVW
import Derived.Deep.RegionWith
namespace Go.Proofs.Ybulkckdq
open Go.RowKit

/-- addVV is entered at its twin. -/
theorem twin_addVV (args : Array Value) (w : World) : (callFunc 29 args).run Yba.prog w = .ok (.enter 12 args) w :=
  run_callFunc_twin (twin := Yba.f12.name) Yba.func29 (by kernel_rfl) (by kernel_rfl) (by kernel_rfl) (by kernel_rfl) Yba.func12 (by kernel_rfl) (by kernel_rfl) (by kernel_rfl) args w

theorem gb_set {w0 w : World} {g : Nat} (h : w0.grownBy w (some g)) (j : Nat) (u : Value) : w0.grownBy (w.setCell ⟨g, j, none⟩ u) (some g) :=
  ⟨h.os, h.tape, h.output, by simpa [World.setCell] using h.size, fun k hk hne => by rw [Below.heap_setCell _ _ _ _ (fun e => hne (by simp [e]))]; exact h.block k hk hne⟩
theorem gb_drewN {w0 w : World} {row : Option Nat} (h : w0.grownBy w row) (n : Nat) : w0.grownBy (w.drewN n) row := ⟨h.os, h.tape, h.output, h.size, h.block⟩

theorem nm0 (C : List Int) (a b : Int) (m : Nat) (h : m < C.length) : (((C.set 0 a).set 1 b).set m 0).getD m 0 = 0 := by
  simp [List.getD, h]
theorem nm1 (C : List Int) (a b : Int) (m : Nat) (hm : 2 ≤ m) (hb : b = C.getD 1 0) (h : C.getD (m - 1) 0 ≠ 0) : (((C.set 0 a).set 1 b).set m 0).getD (m - 1) 0 ≠ 0 := by
  have e : (((C.set 0 a).set 1 b).set m 0).getD (m - 1) 0 = C.getD (m - 1) 0 := by
    simp only [List.getD]
    rw [List.getElem?_set_ne (by omega)]
    by_cases h1 : m - 1 = 1
    · rw [h1]
      by_cases hl : 1 < C.length
      · rw [List.getElem?_set_self (by simpa using hl), hb]
        simp [List.getD]
      · rw [h1] at h
        simp [List.getD, List.getElem?_eq_none (by omega : C.length ≤ 1)] at h
    · rw [List.getElem?_set_ne (by omega), List.getElem?_set_ne (by omega)]
  rw [e]; exact h

set_option maxHeartbeats 800000 in
theorem add_reuse (g g2 m c c2 : Nat) (C C2 : List Int) (wd : Int) (w : World) (hC : Rw w g C) (hCl : C.length = c) (hC2 : Rw w g2 C2) (hC2l : 0 < C2.length) (hm : 2 ≤ m) (hmc : m + 1 ≤ c) (hcb : c ≤ 50000)
    (h0 : C.getD 0 0 = 0) (htop : C.getD (m - 1) 0 ≠ 0) (h1a : 0 ≤ C.getD 1 0) (h1b : C.getD 1 0 < 18446744073709551616) (hw : C2.getD 0 0 = wd) (hwa : 0 ≤ wd) (hwb : wd < 18446744073709551616) (hc2 : 0 < c2) (hc2b : c2 ≤ 50000) :
    Calls Yba.prog 20 #[.slice (some ⟨g, 0, none⟩) m c, .slice (some ⟨g, 0, none⟩) m c, .slice (some ⟨g2, 0, none⟩) 1 c2] w fun e w' =>
      e = .returned (.slice (some ⟨g, 0, none⟩) m c) ∧ Rw w' g (((C.set 0 wd).set 1 (C.getD 1 0)).set m 0) ∧ w.grownBy w' (some g) := by
  have htw := twin_addVV
  have x0 := hC.cell (j := 0) (by omega)
  rw [h0] at x0
  have f0 := hC.free 0
  have y0 := hC2.cell (j := 0) hC2l
  rw [hw] at y0
  have hc0 : ¬ c = 0 := by omega
  have hc1 : ¬ c = 1 := by omega
  have hc20 : ¬ c2 = 0 := by omega
  have HW := hidden hwb
  clear hwb
  have hi1 : (1 : Int) < (m : Int) := by omega
  have hk1 : (1 : Int) ≤ (c : Int) := by omega
  have hk2 : (1 : Int) ≤ (c2 : Int) := by omega
  have hk3 : (m : Int) ≤ (c : Int) := by omega
  have hk4 : (1 : Int) ≤ (m : Int) := by omega
  have x1 := hC.cell (j := 1) (by omega)
  have f1 := hC.free 1
  obtain ⟨z1, hz1⟩ : ∃ z1, z1 = C.getD 1 0 := ⟨_, rfl⟩
  rw [← hz1] at h1a h1b x1
  have HZ1 := hidden hz1
  have H1B := hidden h1b
  clear hz1 h1b
  go_enter Yba.func20, Yba.ntmps20
  go_wp2_with (go_at_call 26; refine (make_reuse g m c (m + 1) _ (by omega) (by omega) (by omega)).mono ?_; rintro e w5 ⟨rfl, rfl⟩)
  have HS : Hid ((0 : Int) + wd < 18446744073709551616) := by have := HW.out; unfold Hid; omega
  have hVV := fun W (x0 : W.cell? ⟨g, 0, none⟩ = some (.int .u64 0)) y0 f0 => addVV_one g c g c g2 c2 0 wd (.int .u64 0) W (by omega) hwa HS.out x0 y0 x0 f0
  rw [Int.zero_add] at hVV
  have HVV := hidden hVV
  clear hVV
  go_region_with (go_at_call 12; refine (HVV.out _ (by exact x0) (by exact y0) (by exact f0)).mono ?_; rintro e w6 ⟨rfl, nq, rfl⟩)
  clear HVV HS
  go_wp2
  have hVW := fun W (x1 : W.cell? ⟨g, 1, none⟩ = some (.int .u64 z1)) f1 => addVW_same g (m - 1) (c - 1) z1 W (by omega) (by omega) h1a H1B.out x1 f1
  have HVW := hidden hVW
  clear hVW
  go_region_with (go_at_call 30; refine (HVW.out _ ?_ ?_).mono ?_; (go_simp); (go_simp); rintro e w7 ⟨rfl, nq2, rfl⟩)
  clear HVW
  have xm := hC.cell (j := m) (by omega)
  have fm := hC.free m
  have hm0 : ¬ m = 0 := by omega
  have hm1 : ¬ m = 1 := by omega
  have hm0' : ¬ 0 = m := by omega
  have hm1' : ¬ 1 = m := by omega
  have hkm : (m : Int) < (m : Int) + 1 := by omega
  have HN := hidden fun W (h : Rw W g (((C.set 0 wd).set 1 z1).set m 0)) => norm_one g m c _ W h (by simp; exact hCl) (by omega) hmc (by omega) (nm0 _ _ _ _ (by omega)) (nm1 _ _ _ _ hm HZ1.out htop)
  go_wp2_with (go_at_call 28; refine (HN.out _ ?_).mono ?_; exact ((((hC.set 0 wd).drewN _).set 1 z1).drewN _).set m 0; rintro e w8 ⟨rfl, rfl⟩)
  go_ret
  rw [← HZ1.out]
  exact ⟨rfl, ((((hC.set 0 wd).drewN _).set 1 z1).drewN _).set m 0, gb_set (gb_drewN (gb_set (gb_drewN (gb_set (World.grownBy.refl _ _) _ _) _) _ _) _) _ _⟩
end Go.Proofs.Ybulkckdq
