/-
  'zzs4306cbig' BY ITS CONTRACT.
-/
import Derived.Test.YbulkckdqMeth
namespace Go.Proofs.Ybulkckdq
open Go.RowKit

/-- The words of the number whose words are the list's: without what is zero above. -/
def nrm : List Int → List Int
  | [] => []
  | x :: T => ahead x (nrm T)

theorem ahead_top {x : Int} {N : List Int} (h : Top N) : Top (ahead x N) := by
  unfold ahead
  split
  · unfold one
    split
    · intro h; simp at h
    · rename_i hx; intro _; simpa using hx
  · rename_i hN
    intro _
    have hl := List.length_pos_iff.2 hN
    have := h hl
    obtain ⟨k, hk⟩ : ∃ k, N.length = k + 1 := ⟨N.length - 1, by omega⟩
    rw [List.length_cons, hk]
    rw [hk] at this
    simpa [List.getD] using this
theorem nrm_top : ∀ Z, Top (nrm Z)
  | [] => fun h => by simp [nrm] at h
  | _ :: T => ahead_top (nrm_top T)
theorem ahead_len (x : Int) (N : List Int) : (ahead x N).length ≤ N.length + 1 := by
  unfold ahead one
  split
  · split <;> simp
  · simp
theorem nrm_len : ∀ Z : List Int, (nrm Z).length ≤ Z.length
  | [] => by simp [nrm]
  | x :: T => by have := nrm_len T; have := ahead_len x (nrm T); simp only [nrm, List.length_cons]; omega
theorem nrm_mem : ∀ (Z : List Int) (y : Int), y ∈ nrm Z → y ∈ Z
  | [], y, h => by simp [nrm] at h
  | x :: T, y, h => by
    unfold nrm ahead one at h
    split at h
    · split at h
      · simp at h
      · simp at h; simp [h]
    · rcases List.mem_cons.1 h with h | h
      · simp [h]
      · exact List.mem_cons_of_mem _ (nrm_mem T y h)
theorem shl_len (N : List Int) : (shl N).length ≤ N.length + 1 := by unfold shl; split <;> simp

section
variable {w w' : World} {base b : Nat} {v : Value} {m : Nat} {C : List Int}
theorem NatAt.kept (h : NatAt w base v m C) (hb : ∀ k, k < w.heap.size → w'.heap[k]? = w.heap[k]?) : NatAt w' base v m C := by
  refine ⟨h.1, ?_⟩
  rcases h.2 with h1 | ⟨g, hv, hm, hmC, hbg, hR⟩
  · exact .inl h1
  · exact .inr ⟨g, hv, hm, hmC, hbg, by unfold Rw; rw [hb g hR.lt]; exact hR⟩
theorem IntAt.kept (h : IntAt w base b v m C) (hb : ∀ k, k < w.heap.size → w'.heap[k]? = w.heap[k]?) : IntAt w' base b v m C :=
  ⟨by rw [hb b (lt_of_block h.heap)]; exact h.heap, h.nat.kept hb⟩
/-- Behind a new Int and what is done to it. -/
theorem IntAt.beside (h : IntAt w base b v m C) {o : Obj} (hg : (w.alloc o).grownBy w' (some w.heap.size)) : IntAt w' base b v m C :=
  h.kept fun k hk => by rw [hg.block k (by simp; omega) (by simp; omega), Below.heap_alloc _ _ _ hk]
end

theorem getD_mem {l : List Int} {j : Nat} (h : j < l.length) : l.getD j 0 ∈ l := by
  rw [List.getD, List.getElem?_eq_getElem h]; exact List.getElem_mem h
theorem drop_step (zs : List Int) (len j : Nat) (hj : j < len) (hl : len ≤ zs.length) : (zs.take len).drop j = zs.getD j 0 :: (zs.take len).drop (j + 1) := by
  have h1 : j < (zs.take len).length := by simp; omega
  rw [List.drop_eq_getElem_cons h1]
  congr 1
  rw [List.getElem_take, List.getD, List.getElem?_eq_getElem (by omega)]; rfl

set_option maxHeartbeats 1600000 in
theorem big_any (a : Option Addr) (len cap : Nat) (zs : List Int) (w : World) (hl : len ≤ 1024) (hz : len ≤ zs.length)
    (hcell : ∀ W, Below w.heap.size w W → ∀ t, t < len → ∃ x, a = some x ∧ W.cell? (x.add t) = some (.int .u64 (zs.getD t 0)))
    (hwd : ∀ y ∈ zs, 0 ≤ y ∧ y < 18446744073709551616) :
    Calls Yba.prog 5 #[.slice a len cap] w fun e w' => e = .returned (.pointer (some ⟨w.heap.size, 0, none⟩)) ∧ ∃ v m C, IntAt w' w.heap.size w.heap.size v m C ∧ C.take m = nrm (zs.take len) ∧ Below w.heap.size w w' := by
  have HC := hidden hcell
  have HW := hidden hwd
  have HZ := hidden hz
  clear hcell hwd hz
  go_enter Yba.func5, Yba.ntmps5
  go_wp2
  go_loopw [4] (fun i wr => ∃ (k : Nat) (v : Value) (m : Nat) (C : List Int), k ≤ len ∧ i = .int .i64 ((k : Int) - 1) ∧ IntAt wr w.heap.size w.heap.size v m C ∧ C.take m = nrm ((zs.take len).drop k) ∧ Below w.heap.size w wr)
    (fun i _ => (intOf i + 1).toNat)
  case atStart => exact ⟨len, _, 0, [], Nat.le_refl _, rfl, ⟨heap_alloc_new w _, natAt_nil _ _⟩, by rw [List.drop_eq_nil_of_le (by simp; omega)]; rfl, (Below.refl _ _).alloc (Nat.le_refl _) _⟩
  case round =>
    obtain ⟨k, v, m, C, hk, rfl, hI, hN, hB⟩ := hrel
    have HI := hidden hI
    have HN := hidden hN
    have HB := hidden hB
    clear hI hN hB
    cases k with
    | zero =>
      go_wp2_with fail
      go_ret
      exact ⟨rfl, v, m, C, HI.out, HN.out, HB.out⟩
    | succ j =>
      obtain ⟨x, rfl, hx⟩ := HC.out wr HB.out j (by omega)
      obtain ⟨z, hz⟩ : ∃ z, z = zs.getD j 0 := ⟨_, rfl⟩
      rw [← hz] at hx
      have hzm : zs.getD j 0 ∈ zs := getD_mem (by have := HZ.out; omega)
      rw [← hz] at hzm
      obtain ⟨hz0, hz1⟩ := HW.out z hzm
      have HN2 : Hid (nrm ((zs.take len).drop j) = ahead z (nrm ((zs.take len).drop (j + 1)))) := by
        unfold Hid
        rw [drop_step zs len j (by omega) HZ.out, ← hz]; rfl
      have HZ1 := hidden hz1
      have HCz : Hid (∀ W, Below w.heap.size w W → W.cell? (x.add j) = some (.int .u64 z)) := by
        intro W hW
        obtain ⟨x', hx', hc'⟩ := HC.out W hW j (by omega)
        cases hx'
        rw [hz]; exact hc'
      clear hz hzm hz1
      obtain ⟨N, hNe⟩ : ∃ N, N = nrm ((zs.take len).drop (j + 1)) := ⟨_, rfl⟩
      have HT : Hid (Top N) := by rw [hNe]; exact nrm_top _
      have HM : Hid (∀ y ∈ N, 0 ≤ y ∧ y < 18446744073709551616) := by
        intro y hy
        rw [hNe] at hy
        exact HW.out y (List.mem_of_mem_take (List.mem_of_mem_drop (nrm_mem _ _ hy)))
      have HL : Hid (N.length ≤ 1024) := by rw [hNe]; have := nrm_len ((zs.take len).drop (j + 1)); simp only [List.length_drop, List.length_take] at this; unfold Hid; omega
      rw [← hNe] at HN HN2
      clear hNe
      have hml : m ≤ 1024 := by have h1 := HI.out.nat.takeLen; rw [HN.out] at h1; have := HL.out; omega
      have hij : ((j + 1 : Nat) : Int) - 1 = (j : Int) := by omega
      rw [hij]
      clear hij
      have hji : (j : Int) < (len : Int) := by omega
      go_wp2_with (first
        | (go_at_call 8; refine (Lsh_any HI.out (by rw [HN.out]; exact HT.out) (Nat.le_refl _) (by omega)).mono ?_; rintro e w5 ⟨rfl, v5, m5, C5, hI5, hN5, hB5⟩; rw [HN.out] at hN5; have HI5 := hidden hI5; have HN5 := hidden hN5; have HB5 := hidden (HB.out.trans hB5); have hs5 := HB5.out.size; have hx5 := HCz.out _ (HB5.out.alloc hs5 (.cells #[.bool false, .slice none 0 0] 33)); have hm5 : m5 ≤ 1025 := (by have h1 := HI5.out.nat.takeLen; rw [HN5.out] at h1; have := shl_len N; have := HL.out; omega); clear hI5 hN5 hB5)
        | (go_at_call 10; refine (SetUint64_any z w.heap.size w5.heap.size _ (heap_alloc_new w5 _) (by simp; omega)).mono ?_; rintro e w6 ⟨rfl, v6, m6, C6, hI6, hN6, hg6⟩; have HI6 := hidden hI6; have HN6 := hidden hN6; have HIb := hidden (HI5.out.beside hg6); have HB6 := hidden (Below.grown (HB5.out.alloc hs5 (.cells #[.bool false, .slice none 0 0] 33)) hg6 (by simp; omega) (fun t ht => by cases ht; exact hs5)); clear hI6 hN6 hg6)
        | (go_at_call 9; refine (Add_any HIb.out HI6.out HN5.out HN6.out HT.out HM.out hz0 HZ1.out (Nat.le_refl _) (by omega)).mono ?_; rintro e w7 ⟨rfl, v7, m7, C7, hI7, hN7, hB7⟩; have HI7 := hidden hI7; have HN7 := hidden hN7; have HB7 := hidden (HB6.out.trans hB7); clear hI7 hN7 hB7))
      go_roundw
      case rel => exact ⟨j, v7, m7, C7, by omega, by go_num, HI7.out, by rw [HN7.out, HN2.out], HB7.out⟩
      case measure => simp [intOf]
end Go.Proofs.Ybulkckdq
