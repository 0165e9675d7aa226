/-
  addVW WITH A CARRY OF 0, BY ITS CONTRACTS: onto itself; onto a new row.
-/
import Derived.Test.YbulkckdqNat
namespace Go.Proofs.Ybulkckdq
open Go.RowKit

theorem Row30 : Row1 Yba.prog 30 39 .u64 8 := ⟨Yba.underlying30, Yba.info39⟩
theorem Yba.has39 : ∃ j, Yba.prog.info? 39 = some j ∧ j.size ≠ 0 := by
  obtain ⟨i, hi, _, h, _⟩ := info_parts Yba.info39
  exact ⟨i, hi, by omega⟩
theorem neq54_same (a : Addr) (w : World) : (binOp .neq 54 (.pointer (some a)) (.pointer (some a))).run Yba.prog w = .ok (.bool false) w := by
  obtain ⟨j, hj, _⟩ := Yba.has39; exact Lib.run_neq_ptr_same w a Yba.underlying54 hj
theorem neq54_other {w : World} {a b : Addr} {ca cb : Array Value} {ta tb : TypeId} (hne : a ≠ b) (ha : w.heap[a.block]? = some (.cells ca ta (0, 0))) (hb : w.heap[b.block]? = some (.cells cb tb (0, 0))) :
    (binOp .neq 54 (.pointer (some a)) (.pointer (some b))).run Yba.prog w = .ok (.bool true) w := by
  obtain ⟨j, hj, hsz⟩ := Yba.has39
  have h : ∀ d : Nat, (Op.equalIn (d + 1) 54 (.pointer (some a)) (.pointer (some b))).run Yba.prog w = .ok false w := fun d => by
    simp [Op.equalIn, run_underlying Yba.underlying54, sizeOf, typeInfo, hj, hsz, run_sameAddr_other w hne ha hb]
  simp only [binOp]
  simp [Op.equal, Op.maxDepth, h 9999]

set_option maxHeartbeats 400000 in
/-- Onto itself. -/
theorem addVW_same (g L cz : Nat) (x : Int) (w : World) (hL : 0 < L) (hLb : L ≤ 100000) (hx : 0 ≤ x) (hxb : x < 18446744073709551616)
    (cx : w.cell? ⟨g, 1, none⟩ = some (.int .u64 x)) (fz : w.frozen? ⟨g, 1, none⟩ = false) :
    Calls Yba.prog 30 #[.slice (some ⟨g, 1, none⟩) L cz, .slice (some ⟨g, 1, none⟩) L cz, .int .u64 0] w fun e w' => e = .returned (.int .u64 0) ∧ ∃ nq, w' = (w.setCell ⟨g, 1, none⟩ (.int .u64 x)).drewN nq := by
  have hns := neq54_same
  have hi0 : (0 : Int) < (L : Int) := by omega
  have hba := fun w => bitsAdd x 0 hx (by omega) (by omega) w
  rw [Int.add_zero] at hba
  have HBA := hidden hba
  clear hba hxb
  go_enter Yba.func30, Yba.ntmps30
  go_wp2_with (go_at_call 31; refine (HBA.out _).mono ?_; rintro e w' ⟨rfl, rfl⟩)
  go_quiet (fail)
  go_wp2
  go_ret
  exact ⟨rfl, _, rfl⟩

theorem splice_words (Z X : List Int) (L : Nat) (hL : 0 < L) (hz : L + 1 ≤ Z.length) (hx : L + 1 ≤ X.length) :
    splice ((Z.set 1 (X.getD 1 0)).map (Value.int .u64)) 2 (((X.drop 2).take (L - 1)).map (Value.int .u64)) = (Z.take 1 ++ (X.drop 1).take L ++ Z.drop (L + 1)).map (Value.int .u64) := by
  unfold splice
  rw [← List.map_take, ← List.map_drop, ← List.map_append, ← List.map_append]
  congr 1
  match Z, hz with
  | z0 :: z1 :: Z, hz =>
    match X, hx with
    | x0 :: x1 :: X, hx =>
      obtain ⟨L, rfl⟩ : ∃ l, L = l + 1 := ⟨L - 1, by omega⟩
      simp only [List.length_cons] at hx hz
      simp [List.length_take, Nat.min_eq_left (show L ≤ X.length by omega)]
      rw [show 2 + L = L + 2 by omega, List.drop_succ_cons, List.drop_succ_cons]
    | [_], hx => simp at hx; omega
    | [], hx => simp at hx
  | [_], hz => simp at hz; omega
  | [], hz => simp at hz

/-- The copy in addVW, as one step of a region that draws. -/
theorem step_vw {ops : Array Oper} {o : Oper} {a : Act} {w : World} {K : Act → World → Prop} {Q : Exit → Act → World → Prop} {E : Prop} (hgd : o.guard = none)
    (ho : o.op = .call { callee := .builtin .copy, args := #[.tmp 40, .tmp 42], argTypes := #[30, 30] }) {gz c1 c2 L : Nat} {cur cs : List Value} {w0 W : World} (sp : Option Addr)
    (hd : a.eval (.tmp 40) = .slice (some ⟨gz, 2, none⟩) (L - 1) c1) (hs : a.eval (.tmp 42) = .slice sp (L - 1) c2) (hg : Hid (W.heap[gz]? = some (.cells cur.toArray 39 (0, 0)))) (hcl : Hid (cs.length = L - 1))
    (hsrc : ∀ ad, sp = some ad → ∀ j v, cs[j]? = some v → W.cell? (ad.add j) = some v) (hsp : sp ≠ none)
    (hfit : Hid (2 + cs.length ≤ cur.length)) (hon : Hid (∀ v ∈ cs, v.oneCell' = true)) (hb : Hid (Below gz w0 W)) (hw : ∃ n, w = W.drewN n)
    (h : ∀ w', Hid (w'.heap[gz]? = some (.cells (splice cur 2 cs).toArray 39 (0, 0))) → Below gz w0 w' → K (a.put o.dst (goInt cs.length)) w') :
    if Region.wanted o (yielded ops a.tmps) = true then Oper.wp Yba.prog o a w K Q else E := by
  obtain ⟨n, rfl⟩ := hw
  refine step_copy_splice hgd (.tmp 40) (.tmp 42) 30 30 ho 39 Yba.underlying30 Row30.one (some ⟨gz, 2, none⟩) sp (L - 1) c1 (L - 1) c2 hd hs gz 2 cur 39 hg.out cs (by rw [hcl.out]; simp) ?_ hfit.out hon.out gz w0 (below_drewN hb.out n) (Nat.le_refl _) h
  intro _
  refine ⟨rfl, ?_⟩
  cases sp with
  | none => exact absurd rfl hsp
  | some ad => exact ⟨ad, rfl, hsrc ad rfl⟩

set_option maxHeartbeats 800000 in
/-- Onto a new row. -/
theorem addVW_new (gz gx L cz cx : Nat) (Z X : List Int) (w : World) (hZ : Rw w gz Z) (hX : Rw w gx X) (hne : gx < gz) (hL : 0 < L) (hLb : L ≤ 100000) (hcz : 2 ≤ cz) (hcx : L ≤ cx) (hzl : L + 1 ≤ Z.length) (hxl : L + 1 ≤ X.length)
    (hx : 0 ≤ X.getD 1 0) (hxb : X.getD 1 0 < 18446744073709551616) :
    Calls Yba.prog 30 #[.slice (some ⟨gz, 1, none⟩) L cz, .slice (some ⟨gx, 1, none⟩) L cx, .int .u64 0] w fun e w' => e = .returned (.int .u64 0) ∧ Rw w' gz (Z.take 1 ++ (X.drop 1).take L ++ Z.drop (L + 1)) ∧ Below gz w w' := by
  have hsp := hidden (splice_words Z X L hL hzl hxl)
  have c1 := hX.cell (j := 1) (by omega)
  have cz1 := hZ.cell (j := 1) (by omega)
  have fz := hZ.free 1
  obtain ⟨x, hxx⟩ : ∃ x, x = X.getD 1 0 := ⟨_, rfl⟩
  rw [← hxx] at c1 hx hxb hsp
  have hba := fun w => bitsAdd x 0 hx (by omega) (by omega) w
  rw [Int.add_zero] at hba
  have HBA := hidden hba
  have HZ1 := hidden (hZ.set 1 x)
  have HX1 := hidden (hX.other (a := ⟨gz, 1, none⟩) (by simp; omega) (.int .u64 x))
  have hnn : ∀ nq, (binOp .neq 54 (.pointer (some ⟨gz, 1, none⟩)) (.pointer (some ⟨gx, 1, none⟩))).run Yba.prog ((w.setCell ⟨gz, 1, none⟩ (.int .u64 x)).drewN nq) = .ok (.bool true) ((w.setCell ⟨gz, 1, none⟩ (.int .u64 x)).drewN nq) := fun nq =>
    neq54_other (fun e => by cases e; omega) (HZ1.out.drewN nq) (HX1.out.drewN nq)
  have hcs : Hid (∀ (ad : Addr), (¬ cx = 1 → ad = ⟨gx, 2, none⟩) → ∀ nq j v, (((X.drop 2).take (L - 1)).map (Value.int .u64))[j]? = some v → (((w.setCell ⟨gz, 1, none⟩ (.int .u64 x)).drewN nq)).cell? (ad.add j) = some v) := by
    intro ad had nq j v hv
    have hj := (List.getElem?_eq_some_iff.1 hv).1
    simp only [List.length_map, List.length_take, List.length_drop] at hj
    rw [had (by omega), Addr.add_lit, (HX1.out.drewN nq).cell (by omega)]
    simp only [List.getElem?_map, List.getElem?_take, List.getElem?_drop] at hv
    rw [if_pos (by omega)] at hv
    rw [← hv]
    simp [List.getD, List.getElem?_eq_getElem (show 2 + j < X.length by omega)]
  have hi0 : (0 : Int) < (L : Int) := by omega
  have hi1 : (1 : Int) ≤ (L : Int) := by omega
  have hcl : Hid ((((X.drop 2).take (L - 1)).map (Value.int .u64)).length = L - 1) := by unfold Hid; simp; omega
  have hfit : Hid (2 + (((X.drop 2).take (L - 1)).map (Value.int .u64)).length ≤ ((Z.set 1 x).map (Value.int .u64)).length) := by unfold Hid; rw [hcl.out]; simp; omega
  have hon := hidden (ints_oneCell .u64 ((X.drop 2).take (L - 1)))
  have hbl : ∀ nq, Hid (Below gz w ((w.setCell ⟨gz, 1, none⟩ (.int .u64 x)).drewN nq)) := fun nq => hidden (below_drewN ((Below.refl gz w).setCell (p := ⟨gz, 1, none⟩) (Nat.le_refl _) _) nq)
  have HBL := hidden hbl
  obtain ⟨cur, hcur⟩ : ∃ cur, cur = (Z.set 1 x).map (Value.int .u64) := ⟨_, rfl⟩
  obtain ⟨cs, hcse⟩ : ∃ cs, cs = ((X.drop 2).take (L - 1)).map (Value.int .u64) := ⟨_, rfl⟩
  unfold Rw at HZ1
  rw [← hcur] at hsp hfit HZ1
  rw [← hcse] at hsp hcs hcl hfit hon
  have hcl2 : Hid (cs.length = Nat.min (L - 1) (L - 1)) := by unfold Hid; rw [hcl.out]; simp
  clear hba hxb hxx hZ hX hcur hcse hbl
  have hcz1 : ¬ cz = 1 := by omega
  have hcs1 : Hid (cx = 1 → ∀ ad, some (⟨gx, 1, none⟩ : Addr) = some ad → ∀ j v, cs[j]? = some v → (w.setCell ⟨gz, 1, none⟩ (.int .u64 x)).cell? (ad.add j) = some v) := fun h1 ad had => hcs.out ad (fun h => absurd h1 h) 0
  have hcs2 : Hid (∀ ad, some (⟨gx, 2, none⟩ : Addr) = some ad → ∀ j v, cs[j]? = some v → (w.setCell ⟨gz, 1, none⟩ (.int .u64 x)).cell? (ad.add j) = some v) := fun ad had => hcs.out ad (fun _ => (Option.some.inj had).symm) 0
  clear hcs hcl2
  by_cases hc1 : cx = 1
  · subst hc1
    obtain rfl : L = 1 := by omega
    have hcs3 := hidden (hcs1.out rfl)
    clear hcs1 hcs2
    go_enter Yba.func30, Yba.ntmps30
    go_wp2_with (go_at_call 31; refine (HBA.out _).mono ?_; rintro e w' ⟨rfl, rfl⟩)
    go_quiet (fail)
    go_wp2
    go_region_law (refine step_vw (c1 := cz - 1) (c2 := 0) (W := w'.setCell ⟨gz, 1, none⟩ (.int .u64 x)) rfl rfl (some ⟨gx, 1, none⟩) ?h1 ?h2 HZ1 hcl hcs3.out (Option.some_ne_none _) hfit hon (HBL.out 0) ⟨nq + 1, rfl⟩ ?_; (case h1 => go_simp); (case h2 => go_simp); intro w4 hg4 hb4)
    go_wp2
    go_ret
    refine ⟨rfl, ?_, hb4⟩
    have h4 := hg4.out
    rw [hsp.out] at h4
    exact h4
  · go_enter Yba.func30, Yba.ntmps30
    go_wp2_with (go_at_call 31; refine (HBA.out _).mono ?_; rintro e w' ⟨rfl, rfl⟩)
    go_quiet (fail)
    go_wp2
    go_region_law (refine step_vw (c1 := cz - 1) (c2 := cx - 1) (W := w'.setCell ⟨gz, 1, none⟩ (.int .u64 x)) rfl rfl (some ⟨gx, 2, none⟩) ?h1 ?h2 HZ1 hcl (hcs2.out) (Option.some_ne_none _) hfit hon (HBL.out 0) ⟨nq + 1, rfl⟩ ?_; (case h1 => go_simp); (case h2 => go_simp); intro w4 hg4 hb4)
    go_wp2
    go_ret
    refine ⟨rfl, ?_, hb4⟩
    have h4 := hg4.out
    rw [hsp.out] at h4
    exact h4
end Go.Proofs.Ybulkckdq
