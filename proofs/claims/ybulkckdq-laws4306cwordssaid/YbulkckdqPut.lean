/-
  'putWords' BY ITS CONTRACT.
-/
import Derived.Test.YbulkckdqBig
import Derived.WalkLawsBesides
namespace Go.Proofs.Ybulkckdq
open Go.RowKit

theorem Yba.row22 : Row1 Yba.prog 22 26 .u64 8 := ⟨Yba.underlying22, by kernel_rfl⟩

/-- Two words, or-ed. -/
def orU (a b : Int) : Int := bits .or .u64 a b
theorem orU_zero (a : Int) (h0 : 0 ≤ a) (h1 : a < 18446744073709551616) : orU a 0 = a := by
  unfold orU; rw [u64_or a 0 h0 h1 (by omega) (by omega)]; simp; omega
theorem zero_orU (a : Int) (h0 : 0 ≤ a) (h1 : a < 18446744073709551616) : orU 0 a = a := by
  unfold orU; rw [u64_or 0 a (by omega) (by omega) h0 h1]; simp; omega
theorem wrap_in (x : Int) (h0 : 0 ≤ x) (h1 : x < 18446744073709551616) : IntKind.u64.wrap x = x := by rw [IntKind.wrap_u64]; omega

/-- The words behind k rounds. -/
def mix (P N : List Int) (n k : Nat) : List Int := (List.range n).map fun t => if t < k then orU (P.getD t 0) (N.getD t 0) else P.getD t 0
theorem mix_len (P N : List Int) (n k : Nat) : (mix P N n k).length = n := by simp [mix]
theorem mix_get (P N : List Int) (n k t : Nat) (h : t < n) : (mix P N n k).getD t 0 = if t < k then orU (P.getD t 0) (N.getD t 0) else P.getD t 0 := by
  simp [mix, List.getD, h]
theorem mix_zero (P N : List Int) (n : Nat) (h : P.length = n) : mix P N n 0 = P := by
  apply List.ext_getElem
  · simp [mix, h]
  · intro i h1 h2
    simp [mix, List.getD, h2]
theorem mix_step (P N : List Int) (n k : Nat) : ((mix P N n k).map (Value.int .u64)).set k (.int .u64 (orU (P.getD k 0) (N.getD k 0))) = (mix P N n (k + 1)).map (Value.int .u64) := by
  apply List.ext_getElem
  · simp [mix]
  · intro i h1 h2
    rw [List.getElem_set]
    simp only [List.getElem_map, mix, List.getElem_range]
    by_cases e : k = i
    · subst e; simp
    · rw [if_neg e]
      by_cases h3 : i < k
      · rw [if_pos h3, if_pos (by omega)]
      · rw [if_neg h3, if_neg (by omega)]

section
variable {w : World} {base b : Nat} {v : Value} {m : Nat} {C : List Int}
theorem IntAt.other (h : IntAt w base b v m C) {gw : Nat} {cs : Array Value} {fz : Nat × Nat} (hw : w.heap[gw]? = some (.cells cs 26 fz)) (j : Nat) (u : Value) : IntAt (w.setCell ⟨gw, j, none⟩ u) base b v m C := by
  refine ⟨?_, h.nat.1, ?_⟩
  · rw [Below.heap_setCell _ _ _ _ ?_]
    · exact h.heap
    · intro e
      simp only at e
      have h1 := h.heap
      rw [e, hw] at h1
      simp at h1
  · rcases h.nat.2 with h1 | ⟨g, hv, hm, hmC, hbg, hR⟩
    · exact .inl h1
    · refine .inr ⟨g, hv, hm, hmC, hbg, hR.other (a := ⟨gw, j, none⟩) ?_ u⟩
      intro e
      simp only at e
      subst e
      unfold Rw at hR
      rw [hR] at hw
      simp at hw
theorem IntAt.drew (h : IntAt w base b v m C) : IntAt w.drew base b v m C := ⟨h.heap, h.nat⟩
theorem own_heap {n : Nat} {xs : List Value} {gw : Nat} (h : w.ownsRow base 26 1 (.slice (some ⟨gw, 0, none⟩) n n) n xs) : ∃ cs, w.heap[gw]? = some (.cells cs 26 (0, 0)) ∧ base ≤ gw := by
  rcases h.2 with ⟨hv, _⟩ | ⟨g, cap, cur, hv, hb, hg, _⟩
  · cases hv
  · cases hv; exact ⟨cur, hg, hb⟩
theorem word_cell (h : NatAt w base v m C) {ao : Option Addr} {cc : Nat} (hv : v = .slice ao m cc) {k : Nat} (hk : k < m) : ∃ g, ao = some ⟨g, 0, none⟩ ∧ w.cell? ⟨g, k, none⟩ = some (.int .u64 ((C.take m).getD k 0)) := by
  rcases h.2 with ⟨_, rfl, _⟩ | ⟨g, hv', hm, hmC, _, hR⟩
  · omega
  · rw [hv] at hv'
    cases hv'
    refine ⟨g, rfl, ?_⟩
    rw [hR.cell (by omega)]
    simp [List.getD, hk]
end

set_option maxHeartbeats 1600000 in
theorem put_any {w : World} {base b gw n : Nat} {v : Value} {m : Nat} {C P : List Int} (h : IntAt w base b v m C) (hm : m ≤ n) (hn : n ≤ 1024)
    (hw : w.ownsRow base 26 1 (.slice (some ⟨gw, 0, none⟩) n n) n (P.map (Value.int .u64)))
    (hP : ∀ y ∈ P, 0 ≤ y) (hN : ∀ y ∈ C.take m, 0 ≤ y ∧ y < 18446744073709551616) :
    Calls Yba.prog 6 #[.slice (some ⟨gw, 0, none⟩) n n, .pointer (some ⟨b, 0, none⟩)] w fun e w' => e = .returned (.tuple #[]) ∧ IntAt w' base b v m C ∧
      w'.ownsRow base 26 1 (.slice (some ⟨gw, 0, none⟩) n n) n ((mix P (C.take m) n m).map (Value.int .u64)) ∧ Below base w w' := by
  obtain ⟨ao, cc, rfl⟩ := h.nat.shape
  have htl := h.nat.takeLen
  have hPl := own_len hw
  obtain ⟨N, hNe⟩ : ∃ N, N = C.take m := ⟨_, rfl⟩
  rw [← hNe] at hN htl ⊢
  have HNe := hidden hNe
  have HI := hidden h
  have HW := hidden hw
  have HN := hidden hN
  have HP := hidden hP
  have Htl := hidden htl
  have HPl := hidden hPl
  clear h hw hN hP hNe htl hPl
  go_enter Yba.func6, Yba.ntmps6
  go_wp2_with (go_at_call 11; refine (Bits_any HI.out).mono ?_; rintro e w5 ⟨rfl, rfl⟩)
  go_loopw [9] (fun i wr => ∃ k : Nat, k ≤ m ∧ i = .int .i64 k ∧ IntAt wr base b (.slice ao m cc) m C ∧ wr.ownsRow base 26 1 (.slice (some ⟨gw, 0, none⟩) n n) n ((mix P N n k).map (Value.int .u64)) ∧ Below base w5 wr)
    (fun i _ => m - (intOf i).toNat)
  case atStart => exact ⟨0, Nat.zero_le _, rfl, HI.out, by rw [mix_zero _ _ _ HPl.out]; exact HW.out, Below.refl _ _⟩
  case round =>
    obtain ⟨k, hk, rfl, hI, hQ, hB⟩ := hrel
    have HB := hidden hB
    clear hB
    by_cases hlt : k < m
    · have hki : (k : Int) < (m : Int) := by omega
      have hkn : (k : Int) < (n : Int) := by omega
      obtain ⟨g, hao, hcell⟩ := word_cell hI.nat rfl hlt
      rw [← HNe.out] at hcell
      obtain ⟨cs, hheap, hbg⟩ := own_heap hQ
      have hxx : wr.cell? ⟨gw, k, none⟩ = some (.int .u64 (P.getD k 0)) := by
        rw [hQ.cellAt k (by omega), List.getElem?_map, List.getElem?_eq_getElem (by rw [mix_len]; omega)]
        have := mix_get P N n k k (by omega)
        rw [if_neg (by omega), List.getD, List.getElem?_eq_getElem (by rw [mix_len]; omega)] at this
        simp at this
        simp [this]
      have hff := hQ.frozenAt k
      have hx := HN.out (N.getD k 0) (getD_mem (by have := Htl.out; omega))
      have hy0 := HP.out (P.getD k 0) (getD_mem (by have := HPl.out; omega))
      have HSt : Hid ((wr.setCell ⟨gw, k, none⟩ (.int .u64 (bits .or .u64 (P.getD k 0) (IntKind.u64.wrap (N.getD k 0))))).ownsRow base 26 1 (.slice (some ⟨gw, 0, none⟩) n n) n ((mix P N n (k + 1)).map (Value.int .u64))) := by
        rw [wrap_in _ hx.1 hx.2]
        have := (hQ.stored k (.int .u64 (orU (P.getD k 0) (N.getD k 0)))).1
        rw [mix_step] at this
        exact this
      obtain ⟨x, hxe⟩ : ∃ x, x = N.getD k 0 := ⟨_, rfl⟩
      obtain ⟨y, hye⟩ : ∃ y, y = P.getD k 0 := ⟨_, rfl⟩
      rw [← hxe] at hcell hx HSt
      rw [← hye] at hxx hy0 HSt
      have hx0 := hx.1
      have HI2 := hidden (fun u => hI.other hheap k u)
      subst hao
      clear hI hQ hx hxe hye hheap
      go_wp2
      go_region
      go_wp2
      go_roundw
      case rel => exact ⟨k + 1, by omega, by go_num, (HI2.out _).drew, World.ownsRow.drew HSt.out, (HB.out.setCell hbg _).drew⟩
      case measure => simp [intOf]; omega
    · obtain rfl : k = m := by omega
      have HI3 := hidden hI
      have HQ3 := hidden hQ
      clear hI hQ
      go_wp2
      go_end0
      exact ⟨rfl, HI3.out, HQ3.out, HB.out⟩
end Go.Proofs.Ybulkckdq
