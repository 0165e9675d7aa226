/-
  THE WALK OF 'LawS4303AModel'.
-/
import Derived.Test.YbulkckcaDigits
namespace Go.Proofs.Ybulkckca.lawS4303AModel
open Go.RowKit

set_option maxHeartbeats 800000 in
theorem walk (s : ByteArray) (w : World) (hs : s.size ≤ maxLen) :
    Calls Yba.prog 3 #[.string s] w fun e w' => e = .returned (.bool true) ∧ Below w.heap.size w w' := by
  unfold maxLen at hs
  by_cases h0 : 4096 < s.size
  · go_enter Yba.func3, Yba.ntmps3
    go_wp2
    go_ret
    exact ⟨rfl, Below.refl _ _⟩
  go_enter Yba.func3, Yba.ntmps3
  go_wp2
  go_loop [3, 4] (fun want i => ∃ k : Nat, k ≤ s.size ∧ i = .int .i64 k ∧ want = .bool true ∧ allDig (s.data.toList.take k) = true) (fun _ i => s.size - (intOf i).toNat)
  case atStart => exact ⟨0, Nat.zero_le _, rfl, rfl, rfl⟩
  case round =>
    obtain ⟨k, hk, rfl, rfl, hall⟩ := hrel
    have HA := show Hid _ from hall
    clear hall
    by_cases hlt : k < s.size
    · by_cases hd : digB (s[k].toNat : Int) = true
      · have hgd : Hid (allDig (s.data.toList.take (k + 1)) = true) := by
          unfold Hid
          rw [take_snoc s k hlt, allDig_snoc, HA.out, hd]; rfl
        go_wp2_with (go_at_call 5; refine (digit_any _ _).mono ?_; rintro e w' ⟨rfl, rfl⟩)
        go_round
        case rel => exact ⟨k + 1, by omega, by go_num, rfl, hgd.out⟩
        case measure => simp [intOf]; omega
      · have hd' : digB (s[k].toNat : Int) = false := by simpa using hd
        have hbd : Hid (allDig s.data.toList = false) := allDig_bad (k := k) (by simpa using hlt) hd'
        clear hd
        go_wp2_with (first | (go_at_call 5; refine (digit_any _ _).mono ?_; rintro e w' ⟨rfl, rfl⟩) | (go_at_call 6; refine (isDigits_any _ _ (by omega)).mono ?_; rintro e w' ⟨rfl, hb⟩))
        go_ret
        exact ⟨by rw [hbd.out]; rfl, hb⟩
    · have HA2 : Hid (allDig s.data.toList = true) := by have h := HA.out; rw [List.take_of_length_le (by simp; omega)] at h; exact h
      go_wp2_with (go_at_call 6; refine (isDigits_any _ _ (by omega)).mono ?_; rintro e w' ⟨rfl, hb⟩)
      go_ret
      exact ⟨by rw [HA2.out]; rfl, hb⟩
end Go.Proofs.Ybulkckca.lawS4303AModel
