/-
  THE WALK OF 'LawS4306COr'.
-/
import Derived.Test.YbulkckdqPut
import Derived.Deep.QuietTactic
import Derived.BigQuiet
namespace Go.Proofs.Ybulkckdq
open Go.RowKit

theorem nrm_get : ∀ (Z : List Int) (t : Nat), (nrm Z).getD t 0 = Z.getD t 0
  | [], t => by simp [nrm]
  | x :: T, t => by
    have ih := nrm_get T
    unfold nrm ahead
    split
    · rename_i hT
      cases t with
      | zero => unfold one; split <;> simp_all
      | succ t =>
        have := ih t
        rw [hT] at this
        unfold one
        split
        · simpa using this
        · simpa [List.getD] using this
    · cases t with
      | zero => simp
      | succ t => simpa [List.getD] using ih t

theorem own_weaken {w : World} {b1 b2 n : Nat} {e : TypeId} {v : Value} {xs : List Value} (h : w.ownsRow b1 e 1 v n xs) (hb : b2 ≤ b1) : w.ownsRow b2 e 1 v n xs := by
  refine ⟨h.1, ?_⟩
  rcases h.2 with h1 | ⟨g, cap, cur, hv, hg, r⟩
  · exact .inl h1
  · exact .inr ⟨g, cap, cur, hv, by omega, r⟩

/-- What the words hold in the end. -/
theorem mix_all (P Z : List Int) (n m t : Nat) (ht : t < n) (hm : (nrm Z).length = m) (hp0 : 0 ≤ P.getD t 0) (hp1 : P.getD t 0 < 18446744073709551616) : (mix P (nrm Z) n m).getD t 0 = bits .or .u64 (P.getD t 0) (Z.getD t 0) := by
  rw [mix_get _ _ _ _ _ ht, nrm_get]
  split
  · rfl
  · rename_i h
    have hz : Z.getD t 0 = 0 := by
      rw [← nrm_get, List.getD, List.getElem?_eq_none (by omega)]; rfl
    rw [hz]
    exact (orU_zero _ hp0 hp1).symm

theorem take_getD (l : List Int) (n t : Nat) (h : t < n) : (l.take n).getD t 0 = l.getD t 0 := by simp [List.getD, h]

/-- The words that 'copy(words, pre)' leaves. -/
theorem pre_get (ps : List Int) (lp n t : Nat) (hl : lp ≤ ps.length) (ht : t < n) :
    ((ps.take (Nat.min lp n)) ++ (List.replicate n (0 : Int)).drop (ps.take (Nat.min lp n)).length).getD t 0 = if t < lp then ps.getD t 0 else 0 := by
  have h1 : (ps.take (Nat.min lp n)).length = Nat.min lp n := by rw [List.length_take]; have : Nat.min lp n ≤ lp := Nat.min_le_left _ _; omega
  by_cases h : t < lp
  · have h2 : t < Nat.min lp n := Nat.lt_min.2 ⟨h, ht⟩
    rw [if_pos h]
    simp only [List.getD]
    rw [List.getElem?_append_left (by omega)]
    rw [List.getElem?_take, if_pos h2]
  · rw [if_neg h]
    have h2 : Nat.min lp n ≤ t := Nat.le_trans (Nat.min_le_left _ _) (by omega)
    simp only [List.getD]
    rw [List.getElem?_append_right (by omega), h1, List.drop_replicate, List.getElem?_replicate]
    split <;> rfl

/-- A slice of words that came in: its cells in every later world. -/
def Src (w : World) (a : Option Addr) (len : Nat) (zs : List Int) : Prop := ∀ W, Below w.heap.size w W → ∀ t, t < len → ∃ x, a = some x ∧ W.cell? (x.add t) = some (.int .u64 (zs.getD t 0))
theorem Src.cells {w : World} {a : Option Addr} {len : Nat} {zs : List Int} (h : Src w a len zs) {W : World} (hW : Below w.heap.size w W) (k : Nat) (hk : k ≤ len) :
    ∀ ad, a = some ad → ∀ j v, ((zs.take k).map (Value.int .u64))[j]? = some v → W.cell? (ad.add j) = some v := by
  intro ad had j v hv
  simp only [List.getElem?_map, Option.map_eq_some_iff] at hv
  obtain ⟨z, hz2, rfl⟩ := hv
  rw [List.getElem?_take] at hz2
  split at hz2
  · obtain ⟨hj, rfl⟩ := List.getElem?_eq_some_iff.1 hz2
    obtain ⟨x, hx, hc⟩ := h W hW j (by omega)
    rw [had] at hx
    cases hx
    rw [hc]
    simp [List.getD, hj]
  · cases hz2

namespace lawS4306COr

theorem long1 (a0 : Option Addr) (len0 cap0 : Nat) (a1 : Option Addr) (len1 cap1 : Nat) (w : World) (h : 1024 < len1) (hm : len1 ≤ maxLen) :
    Calls Yba.prog 4 #[.slice a0 len0 cap0, .slice a1 len1 cap1] w fun e w' => e = .returned (.bool true) ∧ Below w.heap.size w w' := by
  unfold maxLen at hm
  go_enter Yba.func4, Yba.ntmps4
  go_wp2
  go_ret
  exact ⟨rfl, Below.refl _ _⟩
theorem long0 (a0 : Option Addr) (len0 cap0 : Nat) (a1 : Option Addr) (len1 cap1 : Nat) (w : World) (h1 : len1 ≤ 1024) (h : 1024 < len0) (hm : len0 ≤ maxLen) :
    Calls Yba.prog 4 #[.slice a0 len0 cap0, .slice a1 len1 cap1] w fun e w' => e = .returned (.bool true) ∧ Below w.heap.size w w' := by
  unfold maxLen at hm
  go_enter Yba.func4, Yba.ntmps4
  go_wp2
  go_ret
  exact ⟨rfl, Below.refl _ _⟩

/-- What stands behind putWords: each word, read. -/
theorem behind_put {w w1 w3 w4 : World} {len0 len1 m : Nat} {z0 z1 C : List Int} (hz0 : len0 ≤ z0.length) (hN : C.take m = nrm (z1.take len1)) (hm : (C.take m).length = m)
    (hW0 : ∀ y ∈ z0, 0 ≤ y ∧ y < 18446744073709551616)
    (hown : w4.ownsRow w.heap.size 26 1 (.slice (some ⟨w1.heap.size, 0, none⟩) len1 len1) len1 ((mix ((z0.take (Nat.min len0 len1)) ++ (List.replicate len1 (0 : Int)).drop (z0.take (Nat.min len0 len1)).length) (C.take m) len1 m).map (Value.int .u64)))
    (hb1 : Below w.heap.size w w1) (hb3 : Below w1.heap.size w1 w3) (hb4 : Below w.heap.size w3 w4) :
    Hid (∀ t, t < len1 → w4.cell? ⟨w1.heap.size, t, none⟩ = some (.int .u64 (bits .or .u64 (if t < len0 then z0.getD t 0 else 0) (z1.getD t 0)))) ∧ Below w.heap.size w w4 := by
  refine ⟨fun t ht => ?_, (hb1.trans (hb3.mono hb1.size)).trans hb4⟩
  rw [hown.cellAt t (by omega), List.getElem?_map, List.getElem?_eq_getElem (by rw [mix_len]; exact ht)]
  have hp := pre_get z0 len0 len1 t hz0 ht
  have hr : 0 ≤ (if t < len0 then z0.getD t 0 else 0) ∧ (if t < len0 then z0.getD t 0 else 0) < 18446744073709551616 := by
    split
    · exact hW0 _ (getD_mem (by omega))
    · omega
  rw [← hp] at hr
  have := mix_all _ (z1.take len1) len1 m t ht (by rw [← hN]; exact hm) hr.1 hr.2
  rw [hp, take_getD _ _ _ ht, ← hN, List.getD, List.getElem?_eq_getElem (by rw [mix_len]; exact ht)] at this
  simp only [Option.getD_some] at this
  rw [Option.map_some, this]

set_option maxHeartbeats 1600000 in
theorem short (a0 : Option Addr) (len0 cap0 : Nat) (z0 : List Int) (a1 : Option Addr) (len1 cap1 : Nat) (z1 : List Int) (w : World) (h0 : len0 ≤ 1024) (h1 : len1 ≤ 1024) (hz0 : len0 ≤ z0.length) (hz1 : len1 ≤ z1.length)
    (hn0 : a0 = none → len0 = 0) (hs0 : Src w a0 len0 z0) (hs1 : Src w a1 len1 z1) (hW0 : ∀ y ∈ z0, 0 ≤ y ∧ y < 18446744073709551616) (hW1 : ∀ y ∈ z1, 0 ≤ y ∧ y < 18446744073709551616) :
    Calls Yba.prog 4 #[.slice a0 len0 cap0, .slice a1 len1 cap1] w fun e w' => e = .returned (.bool true) ∧ Below w.heap.size w w' := by
  have S0 := hidden hs0
  have S1 := hidden hs1
  have W0 := hidden hW0
  have W1 := hidden hW1
  have Z0 := hidden hz0
  have Z1 := hidden hz1
  have N0 := hidden hn0
  have HL0 : Hid ((z0.take (Nat.min len0 len1)).length = Nat.min len0 len1) := by
    unfold Hid; rw [List.length_take]; have : Nat.min len0 len1 ≤ len0 := Nat.min_le_left _ _; omega
  have HP : Hid (∀ y ∈ z0.take (Nat.min len0 len1) ++ (List.replicate len1 (0 : Int)).drop (z0.take (Nat.min len0 len1)).length, 0 ≤ y) := by
    intro y hy
    rcases List.mem_append.1 hy with h | h
    · exact (hW0 y (List.mem_of_mem_take h)).1
    · have := List.mem_of_mem_drop h
      rw [List.mem_replicate] at this
      omega
  clear hs0 hs1 hW0 hW1 hz0 hz1 hn0
  go_enter Yba.func4, Yba.ntmps4
  go_wp2_with (first
    | (go_at_call 5; refine (big_any a1 len1 cap1 z1 w h1 Z1.out S1.out W1.out).mono ?_; rintro e w1 ⟨rfl, v, m, C, hI, hN, hB⟩; have HI := hidden hI; have HN := hidden hN; have HB1 := hidden hB; have hml : m ≤ len1 := (by have e1 := hI.nat.takeLen; rw [hN] at e1; have e2 := nrm_len (z1.take len1); rw [List.length_take] at e2; omega); have hs1 := hB.size; clear hI hN hB)
    | (at_make; refine make_row Yba.row22 _ rfl (.tmp 20) (.tmp 20) rfl w1.heap.size _ _ _ _ len1 rfl rfl rfl rfl (by omega) (by decide) w1 (Below.refl _ _) (Nat.le_refl _) ?_; intro w2 hown2 hb2 hs2 hs2'; have HO2 := hidden hown2; have HB2 := hidden hb2; clear hown2 hb2)
    | (with_reducible refine at_copy ?_; refine copy_row Yba.row22 _ rfl (.tmp 22) (.tmp 23) rfl w1.heap.size w1.heap.size len1 _ rfl HO2.out a0 len0 cap0 rfl (z0.take (Nat.min len0 len1)) HL0.out N0.out (S0.out.cells (HB1.out.trans (HB2.out.mono HB1.out.size)) _ (Nat.min_le_left _ _)) w1 HB2.out ?_; intro w3 hown3 hb3 hb23; have HO3 := hidden hown3; have HB3 := hidden hb3; clear hown3 hb3 hb23)
    | (go_at_call 6; refine (put_any (n := len1) (gw := w1.heap.size) (HI.out.kept (fun k hk => HB3.out.block k hk)) hml h1 (own_weaken HO3.out hs1) HP.out (fun y hy => W1.out y (List.mem_of_mem_take (nrm_mem _ _ (by rw [← HN.out]; exact hy))))).mono ?_; rintro e w4 ⟨rfl, hI4, hO4, hb4⟩; have HF := behind_put Z0.out HN.out HI.out.nat.takeLen W0.out hO4 HB1.out HB3.out hb4; clear hI4 hO4 hb4; obtain ⟨HX, hbw⟩ := HF; have HBW := hidden hbw; clear hbw))
  go_loopw [7] (fun i wr => ∃ k : Nat, k ≤ len1 ∧ i = .int .i64 k ∧ Below w4.heap.size w4 wr) (fun i _ => len1 - (intOf i).toNat)
  case atStart => exact ⟨0, Nat.zero_le _, rfl, Below.refl _ _⟩
  case round =>
    obtain ⟨k, hk, rfl, hB⟩ := hrel
    have HB := hidden hB
    have HBk := hidden (HBW.out.trans (hB.mono HBW.out.size))
    by_cases hlt : k < len1
    · have hi1 : (k : Int) < (len1 : Int) := by omega
      have hcw := cell_later hB (HX.out k hlt)
      obtain ⟨x1, rfl, hx1⟩ := S1.out wr HBk.out k hlt
      obtain ⟨z, hz⟩ : ∃ z, z = z1.getD k 0 := ⟨_, rfl⟩
      rw [← hz] at hx1 hcw
      clear hz hB
      by_cases hlp : k < len0
      · have hi0 : (k : Int) < (len0 : Int) := by omega
        rw [if_pos hlp] at hcw
        obtain ⟨x0, rfl, hx0⟩ := S0.out wr HBk.out k hlp
        obtain ⟨y, hy⟩ : ∃ y, y = z0.getD k 0 := ⟨_, rfl⟩
        rw [← hy] at hx0 hcw
        clear hy
        go_wp2
        go_quiet (fail)
        go_wp2
        go_roundw
        case rel => exact ⟨k + 1, by omega, by go_num, below_drewN HB.out _⟩
        case measure => simp [intOf]; omega
      · rw [if_neg hlp] at hcw
        go_wp2
        go_quiet (fail)
        go_wp2
        go_roundw
        case rel => exact ⟨k + 1, by omega, by go_num, below_drewN HB.out _⟩
        case measure => simp [intOf]; omega
    · clear hB
      go_wp2
      go_ret
      exact ⟨rfl, HBk.out⟩
end lawS4306COr
end Go.Proofs.Ybulkckdq
