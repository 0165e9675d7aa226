/-
  copy AND clear ON ROWS OF WORDS AS LAWS FOR THE WALK; nat.set, nat.lsh (by one word) BY THEIR CONTRACTS.
-/
import Derived.Test.YbulkckdqAdd2
import Derived.Lib.SliceRun
namespace Go.Proofs.Ybulkckdq
open Go.RowKit

section
variable {ops : Array Oper} {rest : List Oper} {o : Oper} {a : Act} {Q : Exit → Act → World → Prop} {w : World}

theorem gb_setRow (w : World) (g : Nat) (cs : Array Value) : w.grownBy (w.setRow g cs) (some g) :=
  ⟨rfl, rfl, rfl, by simp [World.setRow], fun k _ hne => setRow_other w g k cs (fun e => hne (by rw [e]))⟩

/-- 'copy(z[off:..], x)': the words D go over. -/
theorem copy_nat (hgd : o.guard = none) (d s : Operand) (dT sT : TypeId) (ho : o.op = .call { callee := .builtin .copy, args := #[d, s], argTypes := #[dT, sT] }) (hu : Yba.prog.underlying dT = some (.slice 39))
    (g off dLen dCap : Nat) (ad : Addr) (sLen sCap : Nat) (hd : a.eval d = .slice (some ⟨g, off, none⟩) dLen dCap) (hs : a.eval s = .slice (some ad) sLen sCap) (C : List Int) (hC : Rw w g C) (D : List Int) (hn : D.length = Nat.min sLen dLen)
    (hsrc : ∀ j, j < D.length → w.cell? (ad.add j) = some (.int .u64 (D.getD j 0))) (hfit : off + D.length ≤ C.length)
    (h : ∀ w', Rw w' g (C.take off ++ (D ++ C.drop (off + D.length))) → w.grownBy w' (some g) → wpList Yba.prog ops Q rest (a.put o.dst (goInt D.length)) w') : wpList Yba.prog ops Q (o :: rest) a w := by
  refine wpList_copy_own hgd d s dT sT ho 39 hu Row30.one g off dLen dCap ad sLen sCap hd hs _ 39 hC (D.map (Value.int .u64)) (by simpa using hn) ?_ (by simpa using hfit) (ints_oneCell _ _) ?_
  · intro j v hv
    simp only [List.getElem?_map, Option.map_eq_some_iff] at hv
    obtain ⟨z, hz, rfl⟩ := hv
    obtain ⟨hj, rfl⟩ := List.getElem?_eq_some_iff.1 hz
    rw [hsrc j hj]
    simp [List.getD, hj]
  · have := h (w.setRow g ((C.take off ++ (D ++ C.drop (off + D.length))).map (Value.int .u64)).toArray) (hC.setRow _) (gb_setRow _ _ _)
    simpa using this

theorem setCells_one (w : World) (g : Nat) (u : Value) : w.setCells g 0 [u] = w.setCell ⟨g, 0, none⟩ u := by
  simp [World.setCells]

theorem zero39 (w : World) : (zeroValue 39).run Yba.prog w = .ok (.int .u64 0) w := by
  obtain ⟨i, hi, hz0, _, _⟩ := info_parts Yba.info39
  simp [zeroValue, typeInfo, hi, hz0]

/-- 'clear(z[0:1])'. -/
theorem clear_nat (hgd : o.guard = none) (s : Operand) (ho : o.op = .call { callee := .builtin .clear, args := #[s], argTypes := #[31] }) (g c : Nat) (hs : a.eval s = .slice (some ⟨g, 0, none⟩) 1 c) (C : List Int) (hC : Rw w g C) (hl : 0 < C.length)
    (h : Rw (w.setCell ⟨g, 0, none⟩ (.int .u64 0)) g (C.set 0 0) → wpList Yba.prog ops Q rest (a.put o.dst (.tuple #[])) (w.setCell ⟨g, 0, none⟩ (.int .u64 0))) : wpList Yba.prog ops Q (o :: rest) a w := by
  refine wpList_plain hgd fun K hK => ?_
  have hrun := Lib.run_clear_slice (P := Yba.prog) w 31 39 o.type (.int .u64 0) Yba.underlying31 zero39 rfl rfl g 0 1 c (by omega) (fun j hj => by rw [show 0 + j = j by omega, hC.cell (by omega)]; rfl) (fun j _ => hC.free _)
  rw [show List.replicate 1 (Value.int .u64 0) = [Value.int .u64 0] from rfl, setCells_one] at hrun
  unfold Oper.wp
  simp [execOp, ho, resolve, invoke, builtin, hs, hrun, Result.andThen]
  exact hK _ _ (h (hC.set 0 0))
end

theorem at_clear {P : Program} {ops : Array Oper} {rest : List Oper} {a : Act} {Q : Exit → Act → World → Prop} {w : World} {dst : Option Tmp} {args : Array Operand} {tys : Array TypeId} {ty : TypeId} {pos : String} {after : Array Edge} {guard : Option (Nat × Bool)}
    (h : wpList P ops Q (⟨dst, .call { callee := .builtin .clear, args := args, argTypes := tys }, ty, pos, after, guard⟩ :: rest) a w) :
    wpList P ops Q (⟨dst, .call { callee := .builtin .clear, args := args, argTypes := tys }, ty, pos, after, guard⟩ :: rest) a w := h

theorem take_cells {w : World} {g m : Nat} {C : List Int} (hC : Rw w g C) (hm : m ≤ C.length) : ∀ j, j < (C.take m).length → w.cell? ((⟨g, 0, none⟩ : Addr).add j) = some (.int .u64 ((C.take m).getD j 0)) := by
  intro j hj
  rw [List.length_take] at hj
  rw [Addr.add_lit, Nat.zero_add, hC.cell (by omega)]
  simp [List.getD, show j < m by omega]

/-- nat.set onto itself: nothing turns. -/
theorem set_self (g m : Nat) (C : List Int) (w : World) (hC : Rw w g C) (hm : 0 < m) (hmc : m ≤ C.length) (hcb : C.length ≤ 50000) :
    Calls Yba.prog 25 #[.slice (some ⟨g, 0, none⟩) m C.length, .slice (some ⟨g, 0, none⟩) m C.length] w fun e w' => e = .returned (.slice (some ⟨g, 0, none⟩) m C.length) ∧ Rw w' g C ∧ w.grownBy w' (some g) := by
  have HC := hidden hC
  clear hC
  go_enter Yba.func25, Yba.ntmps25
  go_wp2_with (first
    | (go_at_call 26; refine (make_reuse g m C.length m _ hmc (by omega) (by omega)).mono ?_; rintro e w5 ⟨rfl, rfl⟩)
    | (with_reducible refine at_copy ?_; refine copy_nat rfl (.tmp 9) (.tmp 10) 31 31 rfl Yba.underlying31 g 0 m _ ⟨g, 0, none⟩ m _ rfl rfl C HC.out (C.take m) (by simp; omega) (take_cells HC.out hmc) (by simp; omega) ?_; intro w6 hR6 hg6))
  go_ret
  refine ⟨rfl, ?_, hg6⟩
  have e : C.take 0 ++ (C.take m ++ C.drop (0 + (C.take m).length)) = C := by
    rw [List.length_take, Nat.min_eq_left hmc, Nat.zero_add]; simp
  rw [e] at hR6
  exact hR6

/-- nat.set of one word onto nil. -/
theorem set_one (g2 c2 : Nat) (C2 : List Int) (x : Int) (w : World) (hC2 : Rw w g2 C2) (hl : 0 < C2.length) (hx : C2.getD 0 0 = x) :
    Calls Yba.prog 25 #[.slice none 0 0, .slice (some ⟨g2, 0, none⟩) 1 c2] w fun e w' => e = .returned (.slice (some ⟨w.heap.size, 0, none⟩) 1 1) ∧ Rw w' w.heap.size [x] ∧ Below w.heap.size w w' := by
  have hsrc : Hid (∀ j, j < ([x] : List Int).length → (w.alloc (zrow 1)).cell? ((⟨g2, 0, none⟩ : Addr).add j) = some (.int .u64 (([x] : List Int).getD j 0))) := by
    intro j hj
    obtain rfl : j = 0 := by simpa using hj
    rw [Addr.add_lit, (hC2.alloc _).cell (by omega), hx]
    rfl
  clear hC2 hx
  go_enter Yba.func25, Yba.ntmps25
  go_wp2_with (first
    | (go_at_call 26; refine (make_one _).mono ?_; rintro e w5 ⟨rfl, h5⟩; rw [h5]; clear h5)
    | (with_reducible refine at_copy ?_; refine copy_nat rfl (.tmp 9) (.tmp 10) 31 31 rfl Yba.underlying31 w.heap.size 0 1 _ ⟨g2, 0, none⟩ 1 _ rfl rfl _ (Rw.zrow w 1) [x] rfl hsrc.out (by simp) ?_; intro w6 hR6 hg6))
  go_ret
  exact ⟨rfl, hR6, Below.grown ((Below.refl _ _).alloc (Nat.le_refl _) _) hg6 (by simp) (fun k hk => by cases hk; exact Nat.le_refl _)⟩

/-- The row behind a shift by one word: R0 the row that is written, D the words. -/
def shlRow (R0 D : List Int) : List Int := ((R0.take 1 ++ (D ++ R0.drop (1 + D.length))).set (D.length + 1) 0).set 0 0
theorem shlRow_eq (R0 D : List Int) (h : D.length + 2 ≤ R0.length) : shlRow R0 D = 0 :: (D ++ 0 :: R0.drop (D.length + 2)) := by
  unfold shlRow
  match R0, h with
  | r :: R, h =>
    simp only [List.length_cons] at h
    obtain ⟨y, T, hy⟩ : ∃ y T, R.drop D.length = y :: T := by
      cases hd : R.drop D.length with
      | nil => have := congrArg List.length hd; simp at this; omega
      | cons y T => exact ⟨y, T, rfl⟩
    have h2 : R.drop (D.length + 1) = T := by rw [← List.drop_drop, hy]; rfl
    rw [show 1 + D.length = D.length + 1 by omega, List.drop_succ_cons, hy, List.drop_succ_cons, h2]
    simp
  | [], h => simp at h
theorem shlRow_len (R0 D : List Int) (h : D.length + 2 ≤ R0.length) : (shlRow R0 D).length = R0.length := by
  rw [shlRow_eq R0 D h]; simp; omega
theorem shlRow_take (R0 D : List Int) (m : Nat) (hm : D.length = m) (h : D.length + 2 ≤ R0.length) : (shlRow R0 D).take (m + 1) = 0 :: D := by
  rw [shlRow_eq R0 D h, ← hm]; simp
theorem shlRow_top (R0 D : List Int) (m : Nat) (hm : D.length = m) (h0 : 0 < m) (h : D.length + 2 ≤ R0.length) : (shlRow R0 D).getD (m + 1) 0 = 0 ∧ (shlRow R0 D).getD (m + 1 - 1) 0 = D.getD (m - 1) 0 := by
  rw [shlRow_eq R0 D h, ← hm]
  refine ⟨by simp [List.getD], ?_⟩
  obtain ⟨k, hk⟩ : ∃ k, D.length = k + 1 := ⟨D.length - 1, by omega⟩
  rw [hk]
  simp [List.getD, List.getElem?_append_left (show k < D.length by omega)]

set_option maxHeartbeats 800000 in
theorem lsh_reuse (g m : Nat) (C : List Int) (w : World) (hC : Rw w g C) (hm : 0 < m) (hmc : m + 2 ≤ C.length) (hcb : C.length ≤ 50000) (htop : C.getD (m - 1) 0 ≠ 0) :
    Calls Yba.prog 19 #[.slice (some ⟨g, 0, none⟩) m C.length, .slice (some ⟨g, 0, none⟩) m C.length, .int .u64 64] w fun e w' =>
      e = .returned (.slice (some ⟨g, 0, none⟩) (m + 1) C.length) ∧ Rw w' g (shlRow C (C.take m)) ∧ w.grownBy w' (some g) := by
  have HC := hidden hC
  have hDl : Hid ((C.take m).length = m) := by unfold Hid; simp; omega
  have hl2 : Hid ((C.take m).length + 2 ≤ C.length) := by unfold Hid; rw [hDl.out]; omega
  have HT := hidden htop
  clear hC htop
  obtain ⟨c, hc⟩ : ∃ c, c = C.length := ⟨_, rfl⟩
  have HCl := hidden hc
  rw [← hc] at hmc hcb ⊢
  have hc1 : ¬ c = 1 := by omega
  have hc0 : ¬ c = 0 := by omega
  have hm0 : ((m : Int) == 0) = false := by simp; omega
  clear hc
  have HN := hidden fun W (h : Rw W g (shlRow C (C.take m))) => norm_one g (m + 1) c _ W h (by rw [shlRow_len _ _ hl2.out]; exact HCl.out.symm) (by omega) (by omega) (by omega) (shlRow_top C (C.take m) m hDl.out hm hl2.out).1 (by rw [(shlRow_top C (C.take m) m hDl.out hm hl2.out).2]; simpa [List.getD, show m - 1 < m by omega] using HT.out)
  go_enter Yba.func19, Yba.ntmps19
  go_wp2_with (first
    | (go_at_call 26; refine (make_reuse g m c (m + 1 + 1) _ (by omega) (by omega) (by omega)).mono ?_; rintro e w5 ⟨rfl, rfl⟩)
    | (with_reducible refine at_copy ?_; refine copy_nat rfl (.tmp 46) (.tmp 47) 31 31 rfl Yba.underlying31 g 1 m _ ⟨g, 0, none⟩ m _ rfl rfl C HC.out (C.take m) (by rw [hDl.out]; simp) (take_cells HC.out (by have := HCl.out; omega)) (by rw [hDl.out]; have := HCl.out; omega) ?_; intro w6 hR6 hg6; have HR6 := hidden hR6; have HG6 := hidden hg6; have xm := hR6.cell (j := m + 1) (by have := HCl.out; simp [hDl.out]; omega); have fm := hR6.free (m + 1); clear hR6 hg6)
    | (with_reducible refine at_clear ?_; refine clear_nat rfl (.tmp 68) rfl g c rfl _ (HR6.out.set (m + 1) 0) (by have := HCl.out; simp [hDl.out]; omega) ?_; intro hR7; have HR7 := hidden hR7; clear hR7)
    | (go_at_call 28; refine (HN.out _ (by have h := HR7.out; unfold shlRow; rw [hDl.out] at h ⊢; exact h)).mono ?_; rintro e w8 ⟨rfl, rfl⟩))
  go_ret
  exact ⟨rfl, by have h := HR7.out; unfold shlRow; rw [hDl.out] at h ⊢; exact h, gb_set (gb_set HG6.out _ _) _ _⟩

set_option maxHeartbeats 800000 in
theorem lsh_new (g m : Nat) (C : List Int) (w : World) (hC : Rw w g C) (hm : 0 < m) (hmC : m ≤ C.length) (hmc : C.length < m + 2) (hcb : C.length ≤ 50000) (htop : C.getD (m - 1) 0 ≠ 0) :
    Calls Yba.prog 19 #[.slice (some ⟨g, 0, none⟩) m C.length, .slice (some ⟨g, 0, none⟩) m C.length, .int .u64 64] w fun e w' =>
      e = .returned (.slice (some ⟨w.heap.size, 0, none⟩) (m + 1) (m + 1 + 1 + 4)) ∧ Rw w' w.heap.size (shlRow (List.replicate (m + 1 + 1 + 4) 0) (C.take m)) ∧ Below w.heap.size w w' := by
  have hg := hC.lt
  have HCa := hidden (hC.alloc (zrow (m + 1 + 1 + 4)))
  have hDl : Hid ((C.take m).length = m) := by unfold Hid; simp; omega
  have hl2 : Hid ((C.take m).length + 2 ≤ (List.replicate (m + 1 + 1 + 4) (0 : Int)).length) := by unfold Hid; rw [hDl.out]; simp
  have HT := hidden htop
  have HmC := hidden hmC
  clear hC htop
  obtain ⟨c, hc⟩ : ∃ c, c = C.length := ⟨_, rfl⟩
  rw [← hc] at hmc hcb hmC ⊢
  have hc0 : ¬ c = 0 := by omega
  have hm0 : ((m : Int) == 0) = false := by simp; omega
  have hk1 : (m : Int) + 1 ≤ (m : Int) + 1 + 1 + 4 := by omega
  clear hc
  have HN := hidden fun W (h : Rw W w.heap.size (shlRow (List.replicate (m + 1 + 1 + 4) 0) (C.take m))) => norm_one w.heap.size (m + 1) (m + 1 + 1 + 4) _ W h (by rw [shlRow_len _ _ hl2.out]; simp) (by omega) (by omega) (by omega) (shlRow_top _ (C.take m) m hDl.out hm hl2.out).1 (by rw [(shlRow_top _ (C.take m) m hDl.out hm hl2.out).2]; simpa [List.getD, show m - 1 < m by omega] using HT.out)
  obtain ⟨Z, hZ⟩ : ∃ Z, Z = List.replicate (m + 1 + 1 + 4) (0 : Int) := ⟨_, rfl⟩
  have HZl : Hid (Z.length = m + 1 + 1 + 4) := by rw [hZ]; simp [Hid]
  have HZr : Hid (Rw (w.alloc (zrow (m + 1 + 1 + 4))) w.heap.size Z) := by rw [hZ]; exact Rw.zrow w _
  rw [← hZ] at HN hl2 ⊢
  clear hZ
  go_enter Yba.func19, Yba.ntmps19
  go_wp2_with (first
    | (go_at_call 26; refine (make_new (some ⟨g, 0, none⟩) m c (m + 1 + 1) _ (by omega) (by omega) (by omega)).mono ?_; rintro e w5 ⟨rfl, h5⟩; rw [h5]; clear h5)
    | (with_reducible refine at_copy ?_; refine copy_nat rfl (.tmp 46) (.tmp 47) 31 31 rfl Yba.underlying31 w.heap.size 1 m _ ⟨g, 0, none⟩ m _ rfl rfl Z HZr.out (C.take m) (by rw [hDl.out]; simp) (take_cells HCa.out HmC.out) (by rw [hDl.out, HZl.out]; omega) ?_; intro w6 hR6 hg6; have HR6 := hidden hR6; have HG6 := hidden (Below.grown ((Below.refl w.heap.size w).alloc (Nat.le_refl _) (zrow (m + 1 + 1 + 4))) hg6 (by simp) (fun k hk => by cases hk; exact Nat.le_refl _)); have xm := hR6.cell (j := m + 1) (by simp [hDl.out, HZl.out]; omega); have fm := hR6.free (m + 1); clear hR6 hg6)
    | (with_reducible refine at_clear ?_; refine clear_nat rfl (.tmp 68) rfl w.heap.size _ rfl _ (HR6.out.set (m + 1) 0) (by simp [hDl.out, HZl.out]; omega) ?_; intro hR7; have HR7 := hidden hR7; clear hR7)
    | (go_at_call 28; refine (HN.out _ (by have h := HR7.out; unfold shlRow; rw [hDl.out] at h ⊢; exact h)).mono ?_; rintro e w8 ⟨rfl, rfl⟩))
  go_ret
  exact ⟨rfl, by have h := HR7.out; unfold shlRow; rw [hDl.out] at h ⊢; exact h, (HG6.out.setCell (Nat.le_refl _) _).setCell (Nat.le_refl _) _⟩
end Go.Proofs.Ybulkckdq
