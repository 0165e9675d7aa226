/-
  'appendEscaped' BY ITS CONTRACT: onto a row of the call's own it lays the escaped text and its end mark.
-/
import Derived.Test.YbulkcjzwOwn
namespace Go.Proofs.Ybulkcjzw
open Go.RowKit

theorem Yba.row : Row1 Yba.prog 22 5 .u8 1 := ⟨Yba.underlying22, by kernel_rfl⟩

/-- One byte, escaped. -/
def escB (c : UInt8) : List Int := if c.toNat = 0 then [0, 255] else [(c.toNat : Int)]
/-- A text, escaped (without its end mark). -/
def escL (l : List UInt8) : List Int := l.flatMap escB

theorem escL_snoc (l : List UInt8) (c : UInt8) : escL (l ++ [c]) = escL l ++ escB c := by simp [escL]
theorem escB_len (c : UInt8) : (escB c).length ≤ 2 := by unfold escB; split <;> simp
theorem escL_len (l : List UInt8) : (escL l).length ≤ 2 * l.length := by
  induction l with
  | nil => simp [escL]
  | cons c r ih =>
    have := escB_len c
    simp only [escL, List.flatMap_cons, List.length_append, List.length_cons] at *
    omega
theorem take_snoc (s : ByteArray) (k : Nat) (h : k < s.size) : s.data.toList.take (k + 1) = s.data.toList.take k ++ [s[k]] := by
  rw [List.take_succ_eq_append_getElem (by simpa using h)]; rfl

set_option maxHeartbeats 800000 in
theorem esc_any (base : Nat) (v : Value) (n : Nat) (xs : List Int) (s : ByteArray) (w : World) (hn : n ≤ 4096) (hs : s.size ≤ 4096) (hown0 : w.ownsRow base 5 1 v n (xs.map (Value.int .u8))) (hb : base ≤ w.heap.size) :
    Calls Yba.prog 5 #[v, .string s] w fun e w' => ∃ v', e = .returned v' ∧ w'.ownsRow base 5 1 v' (n + (escL s.data.toList).length + 2) ((xs ++ (escL s.data.toList ++ [0, 1])).map (Value.int .u8)) ∧ Below base w w' := by
  go_enter Yba.func5, Yba.ntmps5
  go_wp2
  go_loopw [0, 5] (fun v i wr => ∃ k : Nat, k ≤ s.size ∧ i = .int .i64 k ∧ wr.ownsRow base 5 1 v (n + (escL (s.data.toList.take k)).length) ((xs ++ escL (s.data.toList.take k)).map (Value.int .u8)) ∧ Below base w wr)
    (fun _ i _ => s.size - (intOf i).toNat)
  case atStart => exact ⟨0, Nat.zero_le _, rfl, by simpa [escL] using hown0, Below.refl _ _⟩
  case round =>
    obtain ⟨k, hk, rfl, hown, hnx⟩ := hrel
    have hbr : base ≤ wr.heap.size := by have := hnx.size; omega
    have hlen : (escL (s.data.toList.take k)).length ≤ 8192 := by have := escL_len (s.data.toList.take k); simp at this; omega
    obtain ⟨L, hL⟩ : ∃ L, L = escL (s.data.toList.take k) := ⟨_, rfl⟩
    rw [← hL] at hown hlen
    obtain ⟨X, hX⟩ : ∃ X, X = xs ++ L := ⟨_, rfl⟩
    rw [← hX] at hown
    have HX : Hid (X = xs ++ L) := hX
    clear hX
    by_cases hlt : k < s.size
    · have hsn : Hid (escL (s.data.toList.take (k + 1)) = L ++ escB s[k]) := by rw [take_snoc s k hlt, escL_snoc, hL]; rfl
      clear hL
      by_cases hc : s[k].toNat = 0
      · have hE : Hid (escB s[k] = [0, 255]) := by unfold escB; rw [if_pos hc]; rfl
        go_wp2_with (first | (at_builtin; refine app_row Yba.row _ rfl (.tmp 12) (.tmp 16) rfl base _ _ _ rfl (hown.alloc _) [0] _ 1 1 rfl rfl (cell_one_new _ _ _) (by omega) (by decide) w (hnx.alloc hbr _) (by simp; omega) ?_; intro v1 w1 hown1 hb1 hs1) | (at_builtin; refine app_row Yba.row _ rfl (.tmp 22) (.tmp 23) rfl base _ _ _ rfl (hown1.alloc _) [255] _ 1 1 rfl rfl (cell_one_new _ _ _) (by omega) (by decide) w (hb1.alloc hs1 _) (by simp; omega) ?_; intro v2 w2 hown2 hb2 hs2))
        go_roundw
        case rel =>
          refine ⟨k + 1, by omega, by go_num, ?_, hb2⟩
          rw [hsn.out, hE.out]
          rw [HX.out] at hown2
          simpa [Nat.add_assoc] using hown2
        case measure => simp [intOf]; omega
      · have hE : Hid (escB s[k] = [(s[k].toNat : Int)]) := by unfold escB; rw [if_neg hc]; rfl
        go_wp2_with (at_builtin; refine app_row Yba.row _ rfl (.tmp 12) (.tmp 16) rfl base _ _ _ rfl (hown.alloc _) [(s[k].toNat : Int)] _ 1 1 rfl rfl (cell_one_new _ _ _) (by omega) (by decide) w (hnx.alloc hbr _) (by simp; omega) ?_; intro v1 w1 hown1 hb1 hs1)
        go_roundw
        case rel =>
          refine ⟨k + 1, by omega, by go_num, ?_, hb1⟩
          rw [hsn.out, hE.out]
          rw [HX.out] at hown1
          simpa [Nat.add_assoc] using hown1
        case measure => simp [intOf]; omega
    · have HL : Hid (L = escL s.data.toList) := by rw [hL, List.take_of_length_le (by simp; omega)]; rfl
      clear hL
      go_wp2_with (at_builtin; refine app_row Yba.row _ rfl (.tmp 25) (.tmp 26) rfl base _ _ _ rfl (hown.alloc _) [0, 1] _ 2 2 rfl rfl (cell_two_new _ _ _ _) (by omega) (by decide) w (hnx.alloc hbr _) (by simp; omega) ?_; intro v1 w1 hown1 hb1 hs1)
      go_ret
      refine ⟨_, rfl, ?_, hb1⟩
      rw [← HL.out]
      rw [HX.out] at hown1
      simpa [Nat.add_assoc] using hown1
end Go.Proofs.Ybulkcjzw
