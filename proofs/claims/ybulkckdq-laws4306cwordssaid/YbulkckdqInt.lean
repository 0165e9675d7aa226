/-
  THE NUMBERS IN MEMORY (big.Int, big.nat): nat.lsh, nat.add, nat.setUint64 IN ONE CONTRACT EACH.
-/
import Derived.Test.YbulkckdqSet
namespace Go.Proofs.Ybulkckdq
open Go.RowKit

/-- A nat: nil, or a row of words C of which the first m are seen. -/
def NatAt (w : World) (base : Nat) (v : Value) (m : Nat) (C : List Int) : Prop :=
  C.length ≤ 20000 ∧ ((v = .slice none 0 0 ∧ m = 0 ∧ C = []) ∨ ∃ g, v = .slice (some ⟨g, 0, none⟩) m C.length ∧ 0 < m ∧ m ≤ C.length ∧ base ≤ g ∧ Rw w g C)

/-- Shifted by one word; one word; one word ahead. -/
def shl (N : List Int) : List Int := if N = [] then [] else 0 :: N
def one (x : Int) : List Int := if x = 0 then [] else [x]
def ahead (x : Int) (N : List Int) : List Int := if N = [] then one x else x :: N

/-- Normed words. -/
def Top (N : List Int) : Prop := 0 < N.length → N.getD (N.length - 1) 0 ≠ 0

theorem natAt_nil (w : World) (base : Nat) : NatAt w base (.slice none 0 0) 0 [] := ⟨by simp, .inl ⟨rfl, rfl, rfl⟩⟩
theorem gb_of_below {a b : World} (h : Below a.heap.size a b) (row : Option Nat) : a.grownBy b row := ⟨h.os, h.tape, h.output, h.size, fun k hk _ => h.block k hk⟩

theorem lsh_nil (w : World) : Calls Yba.prog 19 #[.slice none 0 0, .slice none 0 0, .int .u64 64] w fun e w' => e = .returned (.slice none 0 0) ∧ w' = w := by
  go_enter Yba.func19, Yba.ntmps19
  go_wp2
  go_ret
  exact ⟨rfl, rfl⟩

theorem add_nil_nil (w : World) : Calls Yba.prog 20 #[.slice none 0 0, .slice none 0 0, .slice none 0 0] w fun e w' => e = .returned (.slice none 0 0) ∧ w' = w := by
  go_enter Yba.func20, Yba.ntmps20
  go_wp2
  go_ret
  exact ⟨rfl, rfl⟩

theorem add_one_nil (g2 c2 : Nat) (C2 : List Int) (x : Int) (w : World) (hC2 : Rw w g2 C2) (hl : 0 < C2.length) (hx : C2.getD 0 0 = x) :
    Calls Yba.prog 20 #[.slice none 0 0, .slice (some ⟨g2, 0, none⟩) 1 c2, .slice none 0 0] w fun e w' => e = .returned (.slice (some ⟨w.heap.size, 0, none⟩) 1 1) ∧ Rw w' w.heap.size [x] ∧ Below w.heap.size w w' := by
  have HS := hidden (set_one g2 c2 C2 x w hC2 hl hx)
  clear hC2 hx
  go_enter Yba.func20, Yba.ntmps20
  go_wp2_with (go_at_call 25; refine HS.out.mono ?_; rintro e w5 ⟨rfl, hR, hB⟩)
  go_ret
  exact ⟨rfl, hR, hB⟩

theorem add_nil_one (g2 c2 : Nat) (C2 : List Int) (x : Int) (w : World) (hC2 : Rw w g2 C2) (hl : 0 < C2.length) (hx : C2.getD 0 0 = x) :
    Calls Yba.prog 20 #[.slice none 0 0, .slice none 0 0, .slice (some ⟨g2, 0, none⟩) 1 c2] w fun e w' => e = .returned (.slice (some ⟨w.heap.size, 0, none⟩) 1 1) ∧ Rw w' w.heap.size [x] ∧ Below w.heap.size w w' := by
  have HS := hidden (add_one_nil g2 c2 C2 x w hC2 hl hx)
  clear hC2 hx
  go_enter Yba.func20, Yba.ntmps20
  go_wp2_with (go_at_call 20; refine HS.out.mono ?_; rintro e w5 ⟨rfl, hR, hB⟩)
  go_ret
  exact ⟨rfl, hR, hB⟩

theorem add_self_nil (g m : Nat) (C : List Int) (w : World) (hC : Rw w g C) (hm : 0 < m) (hmc : m ≤ C.length) (hcb : C.length ≤ 20000) :
    Calls Yba.prog 20 #[.slice (some ⟨g, 0, none⟩) m C.length, .slice (some ⟨g, 0, none⟩) m C.length, .slice none 0 0] w fun e w' => e = .returned (.slice (some ⟨g, 0, none⟩) m C.length) ∧ Rw w' g C ∧ w.grownBy w' (some g) := by
  have HS := hidden (set_self g m C w hC hm hmc (by omega))
  have hm0 : ((m : Int) == 0) = false := by simp; omega
  clear hC
  go_enter Yba.func20, Yba.ntmps20
  go_wp2_with (go_at_call 25; refine HS.out.mono ?_; rintro e w5 ⟨rfl, hR, hB⟩)
  go_ret
  exact ⟨rfl, hR, hB⟩

section
variable {w : World} {base : Nat} {v v2 : Value} {m m2 : Nat} {C C2 : List Int}

theorem NatAt.len (h : NatAt w base v m C) : m ≤ C.length := by
  rcases h.2 with ⟨_, rfl, rfl⟩ | ⟨_, _, _, h, _⟩
  · simp
  · exact h
theorem NatAt.takeLen (h : NatAt w base v m C) : (C.take m).length = m := by have := h.len; simp; omega

theorem natLsh (h : NatAt w base v m C) (htop : Top (C.take m)) (hb : base ≤ w.heap.size) (hm : m ≤ 2000) :
    Calls Yba.prog 19 #[v, v, .int .u64 64] w fun e w' => ∃ v' m' C', e = .returned v' ∧ NatAt w' base v' m' C' ∧ C'.take m' = shl (C.take m) ∧ w.grownBy w' v.ownBlock := by
  have hcb := h.1
  have htl := h.takeLen
  rcases h.2 with ⟨rfl, rfl, rfl⟩ | ⟨g, rfl, hm0, hmC, hbg, hR⟩
  · refine (lsh_nil w).mono ?_
    rintro e w' ⟨rfl, rfl⟩
    exact ⟨_, 0, [], rfl, natAt_nil _ _, rfl, World.grownBy.refl _ _⟩
  · have ht : C.getD (m - 1) 0 ≠ 0 := by
      have := htop (by omega)
      rw [htl] at this
      simpa [List.getD, show m - 1 < m by omega] using this
    have hne : C.take m ≠ [] := fun e => by rw [e] at htl; simp at htl; omega
    by_cases hr : m + 2 ≤ C.length
    · have hl2 : (C.take m).length + 2 ≤ C.length := by omega
      refine (lsh_reuse g m C w hR hm0 hr (by omega) ht).mono ?_
      rintro e w' ⟨rfl, hR', hg'⟩
      refine ⟨_, m + 1, shlRow C (C.take m), rfl, ⟨by rw [shlRow_len _ _ hl2]; exact hcb, .inr ⟨g, by rw [shlRow_len _ _ hl2], by omega, by rw [shlRow_len _ _ hl2]; omega, hbg, hR'⟩⟩, ?_, hg'⟩
      rw [shlRow_take _ _ m htl hl2, shl, if_neg hne]
    · have hl2 : (C.take m).length + 2 ≤ (List.replicate (m + 1 + 1 + 4) (0 : Int)).length := by simp; omega
      refine (lsh_new g m C w hR hm0 hmC (by omega) (by omega) ht).mono ?_
      rintro e w' ⟨rfl, hR', hB'⟩
      refine ⟨_, m + 1, _, rfl, ⟨by rw [shlRow_len _ _ hl2]; simp; omega, .inr ⟨w.heap.size, by rw [shlRow_len _ _ hl2]; simp, by omega, by rw [shlRow_len _ _ hl2]; simp, hb, hR'⟩⟩, ?_, gb_of_below hB' _⟩
      rw [shlRow_take _ _ m htl hl2, shl, if_neg hne]

theorem take_set2 (C : List Int) (m : Nat) (x : Int) (hm : 2 ≤ m) (hl : m ≤ C.length) : (((C.set 0 x).set 1 (C.getD 1 0)).set m 0).take m = x :: (C.take m).tail := by
  obtain ⟨k, rfl⟩ : ∃ k, m = k + 2 := ⟨m - 2, by omega⟩
  match C, hl with
  | a :: b :: D, hl => simp [List.getD, List.take_set_of_le (Nat.le_refl _)]
  | [_], hl => simp at hl
  | [], hl => simp at hl

theorem natAdd {N : List Int} {x : Int} (h : NatAt w base v m C) (h2 : NatAt w base v2 m2 C2) (hN : C.take m = shl N) (hN2 : C2.take m2 = one x) (htop : Top N) (hw : ∀ y ∈ N, 0 ≤ y ∧ y < 18446744073709551616) (hx0 : 0 ≤ x) (hx1 : x < 18446744073709551616)
    (hb : base ≤ w.heap.size) (hm : m ≤ 2000) :
    Calls Yba.prog 20 #[v, v, v2] w fun e w' => ∃ v' m' C', e = .returned v' ∧ NatAt w' base v' m' C' ∧ C'.take m' = ahead x N ∧ w.grownBy w' v.ownBlock := by
  have hcb := h.1
  have hcb2 := h2.1
  have htl := h.takeLen
  have htl2 := h2.takeLen
  rw [hN] at htl
  rw [hN2] at htl2
  rcases h.2 with ⟨rfl, rfl, rfl⟩ | ⟨g, rfl, hm0, hmC, hbg, hR⟩
  · have hNe : N = [] := by
      by_cases e : N = []
      · exact e
      · rw [shl, if_neg e] at htl; simp at htl
    subst hNe
    rcases h2.2 with ⟨rfl, rfl, rfl⟩ | ⟨g2, rfl, hm20, hm2C, hbg2, hR2⟩
    · have hx : x = 0 := by
        by_cases e : x = 0
        · exact e
        · rw [one, if_neg e] at htl2; simp at htl2
      refine (add_nil_nil w).mono ?_
      rintro e w' ⟨rfl, rfl⟩
      exact ⟨_, 0, [], rfl, natAt_nil _ _, by simp [ahead, one, hx], World.grownBy.refl _ _⟩
    · have hx : x ≠ 0 := fun e => by rw [one, if_pos e] at htl2; simp at htl2; omega
      have hm1 : m2 = 1 := by rw [one, if_neg hx] at htl2; simpa using htl2.symm
      subst hm1
      have hgx : C2.getD 0 0 = x := by
        rw [one, if_neg hx] at hN2
        match C2, hN2 with
        | a :: D, hN2 => simp at hN2; simp [hN2]
      refine (add_nil_one g2 C2.length C2 x w hR2 (by omega) hgx).mono ?_
      rintro e w' ⟨rfl, hR', hB'⟩
      exact ⟨_, 1, [x], rfl, ⟨by simp, .inr ⟨w.heap.size, rfl, by omega, by simp, hb, hR'⟩⟩, by simp [ahead, one, hx], gb_of_below hB' _⟩
  · have hNe : N ≠ [] := fun e => by rw [e] at htl; simp [shl] at htl; omega
    have hNl : 0 < N.length := List.length_pos_iff.2 hNe
    rw [shl, if_neg hNe] at hN htl
    have hmN : m = N.length + 1 := by simpa using htl.symm
    rcases h2.2 with ⟨rfl, rfl, rfl⟩ | ⟨g2, rfl, hm20, hm2C, hbg2, hR2⟩
    · have hx : x = 0 := by
        by_cases e : x = 0
        · exact e
        · rw [one, if_neg e] at htl2; simp at htl2
      refine (add_self_nil g m C w hR hm0 hmC hcb).mono ?_
      rintro e w' ⟨rfl, hR', hg'⟩
      exact ⟨_, m, C, rfl, ⟨hcb, .inr ⟨g, rfl, hm0, hmC, hbg, hR'⟩⟩, by rw [hN, ahead, if_neg hNe, hx], hg'⟩
    · have hx : x ≠ 0 := fun e => by rw [one, if_pos e] at htl2; simp at htl2; omega
      have hm1 : m2 = 1 := by rw [one, if_neg hx] at htl2; simpa using htl2.symm
      subst hm1
      have hgx : C2.getD 0 0 = x := by
        rw [one, if_neg hx] at hN2
        match C2, hN2 with
        | a :: D, hN2 => simp at hN2; simp [hN2]
      have hget : ∀ j, j < m → C.getD j 0 = (0 :: N).getD j 0 := by
        intro j hj
        rw [← hN]
        simp [List.getD, hj]
      have h0 : C.getD 0 0 = 0 := by rw [hget 0 (by omega)]; rfl
      have h1 : C.getD 1 0 = N.getD 0 0 := by rw [hget 1 (by omega)]; rfl
      have h1m : N.getD 0 0 ∈ N := by
        match N, hNl with
        | a :: D, _ => simp
      have ht : C.getD (m - 1) 0 ≠ 0 := by
        rw [hget (m - 1) (by omega), hmN]
        obtain ⟨k, hk⟩ : ∃ k, N.length = k + 1 := ⟨N.length - 1, by omega⟩
        have := htop hNl
        rw [hk] at this ⊢
        simpa [List.getD] using this
      have hb1 := hw _ h1m
      rw [← h1] at hb1
      have htk : x :: (C.take m).tail = ahead x N := by rw [hN, ahead, if_neg hNe]; rfl
      by_cases hr : m + 1 ≤ C.length
      · refine (add_reuse g g2 m C.length C2.length C C2 x w hR rfl hR2 (by omega) (by omega) hr (by omega) h0 ht hb1.1 hb1.2 hgx hx0 hx1 (by omega) (by omega)).mono ?_
        rintro e w' ⟨rfl, hR', hg'⟩
        exact ⟨_, m, _, rfl, ⟨by simpa using hcb, .inr ⟨g, by simp, hm0, by simpa using hmC, hbg, hR'⟩⟩, by rw [take_set2 C m x (by omega) hmC]; exact htk, hg'⟩
      · obtain rfl : m = C.length := by omega
        refine (add_new g g2 C.length C2.length C C2 x w hR rfl hR2 (by omega) (by omega) (by omega) h0 ht hb1.1 hb1.2 hgx hx0 hx1 (by omega) (by omega)).mono ?_
        rintro e w' ⟨rfl, hR', hB'⟩
        exact ⟨_, C.length, _, rfl, ⟨by rw [newRow_len C _ x (by omega) (Nat.le_refl _)]; omega, .inr ⟨w.heap.size, by rw [newRow_len C _ x (by omega) (Nat.le_refl _)], hm0, by rw [newRow_len C _ x (by omega) (Nat.le_refl _)]; omega, hb, hR'⟩⟩, by rw [newRow_take C _ x (by omega) (Nat.le_refl _)]; exact htk, gb_of_below hB' _⟩
end
end Go.Proofs.Ybulkckdq
