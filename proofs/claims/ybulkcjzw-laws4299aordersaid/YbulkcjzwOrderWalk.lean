/-
  THE WALK OF 'LawS4299AOrder', and of the two comparisons that it calls.
-/
import Derived.Test.YbulkcjzwOrderLaw
namespace Go.Proofs.Ybulkcjzw.lawS4299AOrder
open Go.RowKit

theorem compareString_any (a b : ByteArray) (w : World) :
    Calls Yba.prog 9 #[.string a, .string b] w fun e w' => e = .returned (.int .i64 (Lib.compareBytes a.data.toList b.data.toList)) ∧ w' = w := by
  go_enter Yba.func9, Yba.ntmps9
  go_wp2
  rw [run_callFunc_extern Yba.func10 (by kernel_rfl) (by kernel_rfl) (by kernel_rfl) (e := Extern.BytealgCompare.compare) (by kernel_rfl), Lib.run_compareString]
  simp only [Result.andThen]
  rw [Oper.upon_value]
  go_wp2
  go_ret
  exact ⟨rfl, rfl⟩

theorem stringsCompare_any (a b : ByteArray) (w : World) :
    Calls Yba.prog 7 #[.string a, .string b] w fun e w' => e = .returned (.int .i64 (Lib.compareBytes a.data.toList b.data.toList)) ∧ w' = w := by
  go_enter Yba.func7, Yba.ntmps7
  go_wp2_with (go_at_call 9; refine (compareString_any _ _ _).mono ?_; rintro e w' ⟨rfl, rfl⟩)
  go_ret
  exact ⟨rfl, rfl⟩

theorem load_row {w : World} {g n : Nat} {X : List Int} (hX : X.length = n) (h : ∀ j, j < n → w.cell? ⟨g, j, none⟩ = some (.int .u8 (X.getD j 0))) :
    (Extern.Bytes.loadBytes ⟨g, 0, none⟩ n .empty).run Yba.prog w = .ok ⟨(Lib.bytesOf X).toArray⟩ w := by
  have hl := Lib.run_loadBytesX (P := Yba.prog) w X ⟨g, 0, none⟩ .empty (fun j x hj => by
    have hjl : j < X.length := (List.getElem?_eq_some_iff.1 hj).1
    rw [Addr.add_lit, Nat.zero_add, h j (by omega), List.getD_eq_getElem?_getD, hj]
    rfl)
  rw [hX] at hl
  rw [hl]
  congr 1
  apply ByteArray.ext
  show (#[] : Array UInt8) ++ (Lib.bytesOf X).toArray = _
  simp

theorem run_compareRows {w : World} {g1 c1 g2 c2 n m : Nat} {X Y : List Int} (hX : X.length = n) (hY : Y.length = m)
    (h1 : ∀ j, j < n → w.cell? ⟨g1, j, none⟩ = some (.int .u8 (X.getD j 0))) (h2 : ∀ j, j < m → w.cell? ⟨g2, j, none⟩ = some (.int .u8 (Y.getD j 0))) :
    (Extern.BytealgCompare.compare #[.slice (some ⟨g1, 0, none⟩) n c1, .slice (some ⟨g2, 0, none⟩) m c2]).run Yba.prog w = .ok (.int .i64 (Lib.compareBytes (Lib.bytesOf X) (Lib.bytesOf Y))) w := by
  change Sem.run Yba.prog (do pure (goInt (Extern.BytealgCompare.cmp (← Extern.Bytes.bytesOf (.slice (some ⟨g1, 0, none⟩) n c1)) (← Extern.Bytes.bytesOf (.slice (some ⟨g2, 0, none⟩) m c2))))) w = _
  simp only [Extern.Bytes.bytesOf, Sem.run_bind, Sem.run_pure, load_row hX h1, load_row hY h2, Result.andThen]
  rw [Lib.cmp_eq]
  rfl

theorem bytesCompare_any {w : World} {g1 c1 g2 c2 n m : Nat} {X Y : List Int} (hX : Hid (X.length = n)) (hY : Hid (Y.length = m))
    (h1 : Hid (∀ j, j < n → w.cell? ⟨g1, j, none⟩ = some (.int .u8 (X.getD j 0)))) (h2 : Hid (∀ j, j < m → w.cell? ⟨g2, j, none⟩ = some (.int .u8 (Y.getD j 0)))) :
    Calls Yba.prog 6 #[.slice (some ⟨g1, 0, none⟩) n c1, .slice (some ⟨g2, 0, none⟩) m c2] w fun e w' => e = .returned (.int .i64 (Lib.compareBytes (Lib.bytesOf X) (Lib.bytesOf Y))) ∧ w' = w := by
  go_enter Yba.func6, Yba.ntmps6
  go_wp2
  rw [run_callFunc_extern Yba.func8 (by kernel_rfl) (by kernel_rfl) (by kernel_rfl) (e := Extern.BytealgCompare.compare) (by kernel_rfl), run_compareRows hX.out hY.out h1.out h2.out]
  simp only [Result.andThen]
  rw [Oper.upon_value]
  go_wp2
  go_ret
  exact ⟨rfl, rfl⟩

set_option maxHeartbeats 400000 in
theorem walk (a0 : ByteArray) (a1 : ByteArray) (w : World) (w0 : a0.size ≤ maxLen) (w1 : a1.size ≤ maxLen) :
    Calls Yba.prog 4 #[.string a0, .string a1] w fun e w' => e = .returned (.bool true) ∧ Below w.heap.size w w' := by
  unfold maxLen at w0 w1
  by_cases h0 : 4096 < a0.size
  · go_enter Yba.func4, Yba.ntmps4
    go_wp2
    go_ret
    exact ⟨rfl, Below.refl _ _⟩
  by_cases h1 : 4096 < a1.size
  · go_enter Yba.func4, Yba.ntmps4
    go_wp2
    go_ret
    exact ⟨rfl, Below.refl _ _⟩
  go_enter Yba.func4, Yba.ntmps4
  go_wp2_with fail
  refine (esc_any w.heap.size _ 0 [] a0 w (by omega) (by omega) (World.ownsRow_nil _ _ _ _) (Nat.le_refl _)).mono ?_
  rintro e w2 ⟨v2, rfl, hown2, hb2⟩
  go_wp2_with fail
  refine (esc_any w2.heap.size _ 0 [] a1 w2 (by omega) (by omega) (World.ownsRow_nil _ _ _ _) (Nat.le_refl _)).mono ?_
  rintro e w3 ⟨v3, rfl, hown3, hb3⟩
  have hown2' := own_below hown2 hb3 (Nat.le_refl _)
  have hl2 := own_len hown2'
  have hl3 := own_len hown3
  obtain ⟨g1, c1, hv1, _, _, _, hc1⟩ := own_shape hown2' (by omega)
  obtain ⟨g2, c2, hv2, _, _, _, hc2⟩ := own_shape hown3 (by omega)
  clear hown2 hown3 hown2'
  rw [List.nil_append] at hl2 hl3 hc1 hc2
  obtain ⟨N1, hN1⟩ : ∃ N, N = 0 + (escL a0.data.toList).length + 2 := ⟨_, rfl⟩
  obtain ⟨N2, hN2⟩ : ∃ N, N = 0 + (escL a1.data.toList).length + 2 := ⟨_, rfl⟩
  rw [← hN1] at hv1 hl2 hc1
  rw [← hN2] at hv2 hl3 hc2
  clear hN1 hN2
  rw [hv1, hv2]
  clear hv1 hv2
  have HL2 := show Hid _ from hl2
  have HL3 := show Hid _ from hl3
  have HC1 := show Hid _ from hc1
  have HC2 := show Hid _ from hc2
  clear hl2 hl3 hc1 hc2
  go_wp2_with (first | (go_at_call 6; refine (bytesCompare_any HL2 HL3 HC1 HC2).mono ?_; rintro e w4 ⟨rfl, rfl⟩) | (go_at_call 7; refine (stringsCompare_any _ _ _).mono ?_; rintro e w4 ⟨rfl, rfl⟩))
  go_ret
  refine ⟨?_, hb2.trans (hb3.mono hb2.size)⟩
  rw [bytesOf_escL, bytesOf_escL, compare_esc]
  simp
end Go.Proofs.Ybulkcjzw.lawS4299AOrder
