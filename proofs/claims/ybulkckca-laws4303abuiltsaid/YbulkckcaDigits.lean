/-
  'isDigits' AND 'zzs4303adigit' BY THEIR CONTRACTS.
-/
import Derived.Test.YbulkckcaOwn
import Derived.Laws.IdiomStrings
namespace Go.Proofs.Ybulkckca
open Go.RowKit

theorem Yba.row : Row1 Yba.prog 24 5 .u8 1 := ⟨Yba.underlying24, by kernel_rfl⟩

/-- One byte is a decimal digit. -/
def digB (c : Int) : Bool := decide (48 ≤ c) && decide (c ≤ 57)
/-- Every byte is. -/
def allDig (l : List UInt8) : Bool := l.all fun c => digB (c.toNat : Int)

theorem allDig_snoc (l : List UInt8) (c : UInt8) : allDig (l ++ [c]) = (allDig l && digB (c.toNat : Int)) := by simp [allDig]
theorem digB_yes {c : Int} (h : 48 ≤ c ∧ c ≤ 57) : digB c = true := by simp [digB, h]
theorem digB_no {c : Int} (h : ¬ (48 ≤ c ∧ c ≤ 57)) : digB c = false := by simp [digB]; omega
theorem allDig_bad {l : List UInt8} {k : Nat} (hk : k < l.length) (h : digB (l[k].toNat : Int) = false) : allDig l = false := by
  unfold allDig
  rw [List.all_eq_false]
  exact ⟨l[k], List.getElem_mem hk, by simp [h]⟩
theorem take_snoc (s : ByteArray) (k : Nat) (h : k < s.size) : s.data.toList.take (k + 1) = s.data.toList.take k ++ [s[k]] := by
  rw [List.take_succ_eq_append_getElem (by simpa using h)]; rfl

/-- '[]byte(s)'. -/
theorem conv_bytes (s : ByteArray) (w : World) : ∃ C W1, (convert 9 24 (.string s)).run Yba.prog w = .ok (.slice (some ⟨w.heap.size, 0, none⟩) s.size C) W1 ∧
    (∀ j (h : j < s.size), W1.cell? ⟨w.heap.size, j, none⟩ = some (.int .u8 (s[j].toNat : Int))) ∧ Below w.heap.size w W1 := by
  refine ⟨_, _, run_bytes_of_string w 9 24 5 s Yba.underlying9 Yba.underlying24 Yba.underlying5, ?_, ((Below.refl _ _).drew).alloc (Nat.le_refl _) _⟩
  intro j hj
  have hh := heap_alloc_new w.drew (.cells (bytesRow s (grownCap w s.size 0 5)) 5 ((bytesRow s (grownCap w s.size 0 5)).size, (bytesRow s (grownCap w s.size 0 5)).size + 1))
  have hh' : (w.drew.alloc (.cells (bytesRow s (grownCap w s.size 0 5)) 5 ((bytesRow s (grownCap w s.size 0 5)).size, (bytesRow s (grownCap w s.size 0 5)).size + 1))).heap[w.heap.size]? = _ := hh
  simp only [World.cell?, hh']
  have hj' : j < s.data.size := hj
  simp only [bytesRow, Array.getElem?_append, Array.size_map, hj', if_true]
  simp
  exact ⟨s.data[j], by simp, rfl⟩

set_option maxHeartbeats 400000 in
theorem isDigits_any (s : ByteArray) (w : World) (hs : s.size ≤ 100000) :
    Calls Yba.prog 6 #[.string s] w fun e w' => e = .returned (.bool (allDig s.data.toList)) ∧ Below w.heap.size w w' := by
  obtain ⟨C, W1, hcv, hcl, hb⟩ := conv_bytes s w
  have HC := show Hid _ from hcl
  clear hcl
  go_enter Yba.func6, Yba.ntmps6
  go_wp2
  clear hcv
  go_loop [8] (fun i => ∃ k : Nat, k ≤ s.size ∧ i = .int .i64 k ∧ allDig (s.data.toList.take k) = true) (fun i => s.size - (intOf i).toNat)
  case atStart => exact ⟨0, Nat.zero_le _, rfl, rfl⟩
  case round =>
    obtain ⟨k, hk, rfl, hall⟩ := hrel
    have HA := show Hid _ from hall
    clear hall
    by_cases hlt : k < s.size
    · have hc := HC.out k hlt
      obtain ⟨x, hx⟩ : ∃ x, x = (s[k].toNat : Int) := ⟨_, rfl⟩
      rw [← hx] at hc
      have HX := show Hid _ from hx
      clear hx
      have hi : (k : Int) < (s.size : Int) := by omega
      have hbad : ¬ (48 ≤ x ∧ x ≤ 57) → Hid (allDig s.data.toList = false) := by
        intro h
        refine allDig_bad (k := k) (by simpa using hlt) ?_
        have := digB_no h
        rw [HX.out] at this
        exact this
      have hgood : 48 ≤ x ∧ x ≤ 57 → Hid (allDig (s.data.toList.take (k + 1)) = true) := by
        intro h
        have := digB_yes h
        unfold Hid
        rw [take_snoc s k hlt, allDig_snoc, HA.out, ← HX.out, this]; rfl
      by_cases h1 : x < 48
      · have hbd := hbad (by omega)
        clear hbad hgood
        go_wp2
        go_ret
        exact ⟨by rw [hbd.out]; rfl, hb⟩
      · by_cases h2 : 57 < x
        · have hbd := hbad (by omega)
          clear hbad hgood
          go_wp2
          go_ret
          exact ⟨by rw [hbd.out]; rfl, hb⟩
        · have hgd := hgood (by omega)
          clear hbad hgood
          go_wp2
          go_round
          case rel => exact ⟨k + 1, by omega, by go_num, hgd.out⟩
          case measure => simp [intOf]; omega
    · have HA2 : Hid (allDig s.data.toList = true) := by have h := HA.out; rw [List.take_of_length_le (by simp; omega)] at h; exact h
      go_wp2
      go_ret
      exact ⟨by rw [HA2.out]; rfl, hb⟩

set_option maxHeartbeats 1000000 in
theorem digit_any (c : Int) (w : World) : Calls Yba.prog 5 #[.int .u8 c] w fun e w' => e = .returned (.bool (digB c)) ∧ w' = w := by
  by_cases h : 48 ≤ c ∧ c ≤ 57
  · have hd := digB_yes h
    rcases (show c = 48 ∨ c = 49 ∨ c = 50 ∨ c = 51 ∨ c = 52 ∨ c = 53 ∨ c = 54 ∨ c = 55 ∨ c = 56 ∨ c = 57 by omega) with rfl | rfl | rfl | rfl | rfl | rfl | rfl | rfl | rfl | rfl
    all_goals
      rw [hd]
      clear hd h
      go_enter Yba.func5, Yba.ntmps5
      go_wp2
      go_ret
      exact ⟨rfl, rfl⟩
  · have hd := digB_no h
    rw [hd]
    clear hd
    rcases (show c < 48 ∨ 57 < c by omega) with hc | hc
    all_goals
      clear h
      go_enter Yba.func5, Yba.ntmps5
      go_wp2
      go_ret
      exact ⟨rfl, rfl⟩
end Go.Proofs.Ybulkckca
