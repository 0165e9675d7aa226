/-
  THE WALK OF 'LawS4306CWords'.
-/
import Derived.Test.YbulkckdqOrWalk
import Derived.Test.YbulkckdqCmp
namespace Go.Proofs.Ybulkckdq.lawS4306CWords
open Go.RowKit

theorem long (a0 : Option Addr) (len0 cap0 : Nat) (w : World) (h : 1024 < len0) (hm : len0 ≤ maxLen) :
    Calls Yba.prog 3 #[.slice a0 len0 cap0] w fun e w' => e = .returned (.bool true) ∧ Below w.heap.size w w' := by
  unfold maxLen at hm
  go_enter Yba.func3, Yba.ntmps3
  go_wp2
  go_ret
  exact ⟨rfl, Below.refl _ _⟩

theorem zero_get (n t : Nat) : (List.replicate n (0 : Int)).getD t 0 = 0 := by
  simp only [List.getD, List.getElem?_replicate]
  split <;> rfl

/-- What stands behind putWords: each word, read. -/
theorem behind_put {w w1 w2 w4 : World} {len m : Nat} {zs C : List Int} (hz : len ≤ zs.length) (hN : C.take m = nrm (zs.take len)) (hm : (C.take m).length = m)
    (hW : ∀ y ∈ zs, 0 ≤ y ∧ y < 18446744073709551616)
    (hown : w4.ownsRow w.heap.size 26 1 (.slice (some ⟨w1.heap.size, 0, none⟩) len len) len ((mix (List.replicate len (0 : Int)) (C.take m) len m).map (Value.int .u64)))
    (hb1 : Below w.heap.size w w1) (hb2 : Below w1.heap.size w1 w2) (hb4 : Below w.heap.size w2 w4) :
    Hid (∀ t, t < len → w4.cell? ⟨w1.heap.size, t, none⟩ = some (.int .u64 (zs.getD t 0))) ∧ Below w.heap.size w w4 := by
  refine ⟨fun t ht => ?_, (hb1.trans (hb2.mono hb1.size)).trans hb4⟩
  rw [hown.cellAt t (by omega), List.getElem?_map, List.getElem?_eq_getElem (by rw [mix_len]; exact ht)]
  have h0 := zero_get len t
  have := mix_all (List.replicate len (0 : Int)) (zs.take len) len m t ht (by rw [← hN]; exact hm) (by omega) (by omega)
  rw [h0, take_getD _ _ _ ht, ← hN, List.getD, List.getElem?_eq_getElem (by rw [mix_len]; exact ht)] at this
  simp only [Option.getD_some] at this
  have hr := hW _ (getD_mem (show t < zs.length by omega))
  have ho := zero_orU _ hr.1 hr.2
  unfold orU at ho
  rw [Option.map_some, this, ho]

set_option maxHeartbeats 1600000 in
theorem short (a : Option Addr) (len cap : Nat) (zs : List Int) (w : World) (h1 : len ≤ 1024) (hz : len ≤ zs.length) (hs : Src w a len zs) (hW : ∀ y ∈ zs, 0 ≤ y ∧ y < 18446744073709551616) :
    Calls Yba.prog 3 #[.slice a len cap] w fun e w' => e = .returned (.bool true) ∧ Below w.heap.size w w' := by
  have S := hidden hs
  have HW := hidden hW
  have Z := hidden hz
  have HP : Hid (∀ y ∈ List.replicate len (0 : Int), 0 ≤ y) := by
    intro y hy
    rw [List.mem_replicate] at hy
    omega
  clear hs hW hz
  go_enter Yba.func3, Yba.ntmps3
  go_wp2_with (first
    | (go_at_call 5; refine (big_any a len cap zs w h1 Z.out S.out HW.out).mono ?_; rintro e w1 ⟨rfl, v, m, C, hI, hN, hB⟩; have HI := hidden hI; have HN := hidden hN; have HB1 := hidden hB; have hml : m ≤ len := (by have e1 := hI.nat.takeLen; rw [hN] at e1; have e2 := nrm_len (zs.take len); rw [List.length_take] at e2; omega); have hs1 := hB.size; clear hI hN hB)
    | (at_make; refine make_row Yba.row22 _ rfl (.tmp 12) (.tmp 12) rfl w1.heap.size _ _ _ _ len rfl rfl rfl rfl (by omega) (by decide) w1 (Below.refl _ _) (Nat.le_refl _) ?_; intro w2 hown2 hb2 hs2 hs2'; have HO2 := hidden hown2; have HB2 := hidden hb2; clear hown2 hb2)
    | (go_at_call 6; refine (put_any (n := len) (gw := w1.heap.size) (HI.out.kept (fun k hk => HB2.out.block k hk)) hml h1 (own_weaken HO2.out hs1) HP.out (fun y hy => HW.out y (List.mem_of_mem_take (nrm_mem _ _ (by rw [← HN.out]; exact hy))))).mono ?_; rintro e w4 ⟨rfl, hI4, hO4, hb4⟩; have HI4 := hidden hI4; have HF := behind_put Z.out HN.out HI.out.nat.takeLen HW.out hO4 HB1.out HB2.out hb4; clear hI4 hO4 hb4; obtain ⟨HX, hbw⟩ := HF; have HBW := hidden hbw; clear hbw))
  go_loopw [5] (fun i wr => ∃ k : Nat, k ≤ len ∧ i = .int .i64 k ∧ Below w4.heap.size w4 wr) (fun i _ => len - (intOf i).toNat)
  case atStart => exact ⟨0, Nat.zero_le _, rfl, Below.refl _ _⟩
  case round =>
    obtain ⟨k, hk, rfl, hB⟩ := hrel
    have HB := hidden hB
    have HBk := hidden (HBW.out.trans (hB.mono HBW.out.size))
    by_cases hlt : k < len
    · have hi1 : (k : Int) < (len : Int) := by omega
      have hcw := cell_later hB (HX.out k hlt)
      obtain ⟨x1, rfl, hx1⟩ := S.out wr HBk.out k hlt
      obtain ⟨z, hz⟩ : ∃ z, z = zs.getD k 0 := ⟨_, rfl⟩
      rw [← hz] at hx1 hcw
      clear hz hB
      go_wp2
      go_quiet (fail)
      go_wp2
      go_roundw
      case rel => exact ⟨k + 1, by omega, by go_num, below_drewN HB.out _⟩
      case measure => simp [intOf]; omega
    · have HIr := hidden (HI4.out.kept (fun t ht => HB.out.block t ht))
      have hsz : w.heap.size < wr.heap.size := Nat.lt_of_lt_of_le (lt_of_block HI4.out.heap) hB.size
      have S2 : Hid (Src wr a len zs) := fun W hW t ht => S.out W (HBk.out.trans (hW.mono (by omega))) t ht
      clear hB
      go_wp2_with (first
        | (go_at_call 5; refine (big_any a len cap zs wr h1 Z.out S2.out HW.out).mono ?_; rintro e w8 ⟨rfl, v8, m8, C8, hI8, hN8, hB8⟩; have HI8 := hidden hI8; have HN8 := hidden hN8; have HB8 := hidden hB8; have hm8 : m8 = m := (by have e1 := hI8.nat.takeLen; have e2 := HI.out.nat.takeLen; rw [hN8] at e1; rw [HN.out] at e2; omega); clear hI8 hN8 hB8; subst hm8)
        | (go_at_call 7; refine (Cmp_any (HIr.out.kept (fun t ht => HB8.out.block t ht)) HI8.out HN.out HN8.out (by omega)).mono ?_; rintro e w9 ⟨rfl, nq9, rfl⟩))
      go_ret
      exact ⟨rfl, below_drewN (HBk.out.trans (HB8.out.mono (by omega))) _⟩
end Go.Proofs.Ybulkckdq.lawS4306CWords
