/-
  nat.add OF ONE WORD ONTO A NUMBER WHOSE LOWEST WORD IS 0: where a new row must be made; both in one.
-/
import Derived.Test.YbulkckdqAdd
namespace Go.Proofs.Ybulkckdq
open Go.RowKit

/-- The row behind. -/
def newRow_ (C : List Int) (m : Nat) (wd : Int) : List Int := (((List.replicate (m + 1 + 4) (0 : Int)).set 0 wd).take 1 ++ (C.drop 1).take (m - 1) ++ ((List.replicate (m + 1 + 4) (0 : Int)).set 0 wd).drop (m - 1 + 1)).set m 0

theorem newRow_eq (C : List Int) (m : Nat) (wd : Int) (hm : 2 ≤ m) (hl : m ≤ C.length) : newRow_ C m wd = wd :: (C.drop 1).take (m - 1) ++ List.replicate 5 0 := by
  unfold newRow_
  obtain ⟨k, rfl⟩ : ∃ k, m = k + 2 := ⟨m - 2, by omega⟩
  have h1 : ((List.replicate (k + 2 + 1 + 4) (0 : Int)).set 0 wd).take 1 = [wd] := by simp [List.replicate_succ]
  have h2 : ((List.replicate (k + 2 + 1 + 4) (0 : Int)).set 0 wd).drop (k + 2 - 1 + 1) = List.replicate 5 0 := by
    rw [show k + 2 - 1 + 1 = (k + 1) + 1 by omega, List.replicate_succ, List.set_cons_zero, List.drop_succ_cons, List.drop_replicate]
    congr 1
    omega
  rw [h1, h2]
  have hlen : ([wd] ++ (C.drop 1).take (k + 2 - 1)).length = k + 2 := by simp; omega
  rw [List.set_append_right _ _ (by omega), hlen, Nat.sub_self]
  rfl

theorem newRow_len (C : List Int) (m : Nat) (wd : Int) (hm : 2 ≤ m) (hl : m ≤ C.length) : (newRow_ C m wd).length = m + 1 + 4 := by
  rw [newRow_eq C m wd hm hl]; simp; omega
theorem newRow_take (C : List Int) (m : Nat) (wd : Int) (hm : 2 ≤ m) (hl : m ≤ C.length) : (newRow_ C m wd).take m = wd :: (C.take m).tail := by
  rw [newRow_eq C m wd hm hl, List.take_append_of_le_length (by simp; omega), List.take_of_length_le (by simp; omega)]
  congr 1
  obtain ⟨k, rfl⟩ : ∃ k, m = k + 2 := ⟨m - 2, by omega⟩
  match C with
  | x :: D => simp
  | [] => simp at hl
theorem newRow_top (C : List Int) (m : Nat) (wd : Int) (hm : 2 ≤ m) (hl : m ≤ C.length) : (newRow_ C m wd).getD m 0 = 0 ∧ (newRow_ C m wd).getD (m - 1) 0 = C.getD (m - 1) 0 := by
  rw [newRow_eq C m wd hm hl]
  obtain ⟨k, rfl⟩ : ∃ k, m = k + 2 := ⟨m - 2, by omega⟩
  match C with
  | x :: D =>
    simp only [List.length_cons] at hl
    have hlen : (wd :: ((x :: D).drop 1).take (k + 2 - 1)).length = k + 2 := by simp; omega
    refine ⟨?_, ?_⟩
    · simp only [List.getD]
      rw [List.getElem?_append_right (by omega), hlen, Nat.sub_self]
      rfl
    · simp only [List.getD]
      rw [List.getElem?_append_left (by omega)]
      simp
  | [] => simp at hl

/-- addVV of one word into another row. -/
theorem addVV_row (gz cz gx cx gy cy : Nat) (Z : List Int) (x y : Int) (W : World) (hZ : Rw W gz Z) (hz : 0 < Z.length) (hx : 0 ≤ x) (hy : 0 ≤ y) (hs : x + y < 18446744073709551616)
    (cxv : W.cell? ⟨gx, 0, none⟩ = some (.int .u64 x)) (cyv : W.cell? ⟨gy, 0, none⟩ = some (.int .u64 y)) :
    Calls Yba.prog 12 #[.slice (some ⟨gz, 0, none⟩) 1 cz, .slice (some ⟨gx, 0, none⟩) 1 cx, .slice (some ⟨gy, 0, none⟩) 1 cy] W fun e w' => e = .returned (.int .u64 0) ∧ Rw w' gz (Z.set 0 (x + y)) ∧ W.grownBy w' (some gz) := by
  refine (addVV_one gz cz gx cx gy cy x y _ W hx hy hs cxv cyv (hZ.cell hz) (hZ.free 0)).mono ?_
  rintro e w' ⟨rfl, nq, rfl⟩
  exact ⟨rfl, (hZ.set 0 _).drewN _, gb_drewN (gb_set (World.grownBy.refl _ _) _ _) _⟩

set_option maxHeartbeats 1600000 in
theorem add_new (g g2 m c2 : Nat) (C C2 : List Int) (wd : Int) (w : World) (hC : Rw w g C) (hCl : C.length = m) (hC2 : Rw w g2 C2) (hC2l : 0 < C2.length) (hm : 2 ≤ m) (hcb : m ≤ 50000)
    (h0 : C.getD 0 0 = 0) (htop : C.getD (m - 1) 0 ≠ 0) (h1a : 0 ≤ C.getD 1 0) (h1b : C.getD 1 0 < 18446744073709551616) (hw : C2.getD 0 0 = wd) (hwa : 0 ≤ wd) (hwb : wd < 18446744073709551616) (hc2 : 0 < c2) (hc2b : c2 ≤ 50000) :
    Calls Yba.prog 20 #[.slice (some ⟨g, 0, none⟩) m m, .slice (some ⟨g, 0, none⟩) m m, .slice (some ⟨g2, 0, none⟩) 1 c2] w fun e w' =>
      e = .returned (.slice (some ⟨w.heap.size, 0, none⟩) m (m + 1 + 4)) ∧ Rw w' w.heap.size (newRow_ C m wd) ∧ Below w.heap.size w w' := by
  have htw := twin_addVV
  have hc20 : ¬ c2 = 0 := by omega
  have hm0 : ¬ m = 0 := by omega
  have hm1 : ¬ m = 1 := by omega
  have hg := hC.lt
  have hg2 := hC2.lt
  have hi1 : (1 : Int) < (m : Int) := by omega
  have hk1 : (1 : Int) ≤ (m : Int) := by omega
  have hk2 : (1 : Int) ≤ (c2 : Int) := by omega
  have hk3 : (m : Int) ≤ (m : Int) + 1 + 4 := by omega
  have hk4 : (1 : Int) ≤ (m : Int) + 1 + 4 := by omega
  have x0 := hidden (((hC.alloc (zrow (m + 1 + 4))).cell (j := 0) (by omega)).trans (by rw [h0]))
  have y0 := hidden (((hC2.alloc (zrow (m + 1 + 4))).cell (j := 0) hC2l).trans (by rw [hw]))
  have HVV := hidden (addVV_row w.heap.size (m + 1 + 4) g m g2 c2 (List.replicate (m + 1 + 4) 0) 0 wd ((w.alloc (zrow (m + 1 + 4))).drew) (Rw.zrow w _) (by simp) (by omega) hwa (by omega) x0.out y0.out)
  rw [Int.zero_add] at HVV
  have HC := hidden hC
  have H1 := hidden h1b
  have HT := hidden htop
  clear hwb h1b x0 y0 h0 hw htop hC hC2
  go_enter Yba.func20, Yba.ntmps20
  go_wp2_with (go_at_call 26; refine (make_new (some ⟨g, 0, none⟩) m m (m + 1) _ (by omega) (by omega) (by omega)).mono ?_; rintro e w5 ⟨rfl, h5⟩; rw [h5]; clear h5)
  go_region_with (go_at_call 12; refine HVV.out.mono ?_; rintro e w6 ⟨rfl, hR6, hg6⟩; have HR6 := hidden hR6; have HC6 := hidden (((HC.out.alloc (zrow (m + 1 + 4))).drew).kept hg6 (by simp; omega)); have HB6 := hidden (Below.grown (((Below.refl w.heap.size w).alloc (Nat.le_refl _) (zrow (m + 1 + 4))).drew) hg6 (by show w.heap.size ≤ (w.alloc (zrow (m + 1 + 4))).heap.size; simp) (fun k hk => by cases hk; exact Nat.le_refl _)); clear hR6 hg6)
  clear HVV
  go_wp2
  have HVW := hidden (addVW_new w.heap.size g (m - 1) (m + 4) (m - 1) _ C w6.drew HR6.out HC6.out hg (by omega) (by omega) (by omega) (by omega) (by simp; omega) (by omega) h1a H1.out)
  go_region_with (go_at_call 30; refine HVW.out.mono ?_; rintro e w7 ⟨rfl, hR7, hb7⟩; have HR7 := hidden hR7; have HB7 := hidden ((HB6.out.drew).trans hb7); clear hR7 hb7)
  clear HVW
  obtain ⟨D, hD⟩ : ∃ D, D = List.take 1 ((List.replicate (m + 1 + 4) (0 : Int)).set 0 wd) ++ List.take (m - 1) (List.drop 1 C) ++ List.drop (m - 1 + 1) ((List.replicate (m + 1 + 4) (0 : Int)).set 0 wd) := ⟨_, rfl⟩
  rw [← hD] at HR7
  have HN : Hid (newRow_ C m wd = D.set m 0) := by rw [hD]; rfl
  have hDl : D.length = m + 1 + 4 := by have h := newRow_len C m wd hm (by omega); rw [HN.out, List.length_set] at h; exact h
  have hDm : m < D.length := by omega
  have xm := HR7.out.cell hDm
  have fm := HR7.out.free m
  have HNo := hidden fun W (h : Rw W w.heap.size (newRow_ C m wd)) => norm_one w.heap.size m (m + 1 + 4) _ W h (newRow_len C m wd hm (by omega)) (by omega) (by omega) (by omega) (newRow_top C m wd hm (by omega)).1 (by rw [(newRow_top C m wd hm (by omega)).2]; exact HT.out)
  have hkm : (m : Int) < (m : Int) + 1 := by omega
  clear hD hDl hDm
  go_wp2_with (go_at_call 28; refine (HNo.out _ ?_).mono ?_; (show Rw _ _ _; rw [HN.out]; exact HR7.out.set m 0); rintro e w8 ⟨rfl, rfl⟩)
  go_ret
  exact ⟨rfl, by rw [HN.out]; exact HR7.out.set m 0, HB7.out.setCell (Nat.le_refl _) _⟩
end Go.Proofs.Ybulkckdq
