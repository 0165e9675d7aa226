/-
  THE WALK OF 'LawS4299AExact'.
-/
import Derived.Test.YbulkcjzwEsc
import Derived.Deep.QuietTactic
import Derived.BigQuiet
namespace Go.Proofs.Ybulkcjzw.lawS4299AExact
open Go.RowKit

theorem short_b (a0 : Option Addr) (len0 cap0 : Nat) (a1 : ByteArray) (w : World) (h : 4096 < len0) (hm : len0 ≤ maxLen) :
    Calls Yba.prog 3 #[.slice a0 len0 cap0, .string a1] w fun e w' => e = .returned (.bool true) ∧ Below w.heap.size w w' := by
  unfold maxLen at hm
  go_enter Yba.func3, Yba.ntmps3
  go_wp2
  go_ret
  exact ⟨rfl, Below.refl _ _⟩
theorem short_s (a0 : Option Addr) (len0 cap0 : Nat) (a1 : ByteArray) (w : World) (h0 : len0 ≤ 4096) (h : 4096 < a1.size) (hm : a1.size ≤ maxLen) :
    Calls Yba.prog 3 #[.slice a0 len0 cap0, .string a1] w fun e w' => e = .returned (.bool true) ∧ Below w.heap.size w w' := by
  unfold maxLen at hm
  go_enter Yba.func3, Yba.ntmps3
  go_wp2
  go_ret
  exact ⟨rfl, Below.refl _ _⟩

theorem add_block (x : Addr) (j : Nat) : (x.add j).block = x.block := by unfold Addr.add; split <;> rfl

/-- The cells of a list of numbers at an address. -/
theorem cells_at {w : World} {x : Addr} {zs : List Int} (h : ∀ i, i < zs.length → w.cell? (x.add i) = some (.int .u8 (zs.getD i 0))) (n : Nat) :
    ∀ j u, ((zs.take n).map (Value.int .u8))[j]? = some u → w.cell? (x.add j) = some u := by
  intro j u hu
  simp only [List.getElem?_map, Option.map_eq_some_iff] at hu
  obtain ⟨z, hz, rfl⟩ := hu
  rw [List.getElem?_take] at hz
  split at hz
  · obtain ⟨hj, rfl⟩ := List.getElem?_eq_some_iff.1 hz
    rw [h j hj]
    simp [List.getD, hj]
  · cases hz

/-- What the first half leaves: the escaped text behind the copy of b, at an address of its own. -/
theorem hide_out {w w2 w3 : World} {len : Nat} {bs : List Int} {s : ByteArray} {v3 : Value} (HL : Hid (bs.length = len))
    (hown3 : w3.ownsRow w.heap.size 5 1 v3 (len + (escL s.data.toList).length + 2) ((bs ++ List.drop bs.length (List.replicate len 0) ++ (escL s.data.toList ++ [0, 1])).map (Value.int .u8)))
    (hb2 : Below w.heap.size w w2) (hb23 : Below w.heap.size w2 w3) :
    ∃ g cap, v3 = .slice (some ⟨g, 0, none⟩) (len + (escL s.data.toList).length + 2) cap ∧ Below w.heap.size w w3 ∧ g < w3.heap.size ∧
      Hid (∀ j, j < len + (escL s.data.toList).length + 2 → w3.cell? ⟨g, j, none⟩ = some (.int .u8 ((bs ++ (escL s.data.toList ++ [0, 1])).getD j 0))) := by
  obtain ⟨g, cap, hv, _, hg, _, hc⟩ := own_shape hown3 (by omega)
  refine ⟨g, cap, hv, hb2.trans hb23, hg, ?_⟩
  have e : bs ++ List.drop bs.length (List.replicate len 0) = bs := by rw [HL.out]; simp
  rw [e] at hc
  exact hc

/-- Both rows, read in the last world: the same numbers. -/
theorem out_want {w3 w1 : World} {len g N : Nat} {bs L X : List Int} {s : ByteArray} {v1 : Value} (hN2 : Hid (len + L.length + 2 = N)) (HX : Hid (X = bs ++ L)) (HL2 : Hid (L = escL s.data.toList))
    (HC3 : Hid (∀ j, j < N → w3.cell? ⟨g, j, none⟩ = some (.int .u8 ((bs ++ (escL s.data.toList ++ [0, 1])).getD j 0)))) (hg3 : g < w3.heap.size)
    (hown1 : w1.ownsRow w3.heap.size 5 1 v1 (len + L.length + 2) ((X ++ [0, 1]).map (Value.int .u8))) (hb1 : Below w3.heap.size w3 w1) :
    ∃ g1 cap1, v1 = .slice (some ⟨g1, 0, none⟩) N cap1 ∧
      Hid (∀ j, j < N → ∃ x : Int, w1.cell? ⟨g, j, none⟩ = some (.int .u8 x) ∧ w1.cell? ⟨g1, j, none⟩ = some (.int .u8 x)) ∧ g < w1.heap.size ∧ g1 < w1.heap.size := by
  rw [hN2.out] at hown1
  obtain ⟨g1, cap1, hv, _, hg, _, hc⟩ := own_shape hown1 (by have := hN2.out; omega)
  refine ⟨g1, cap1, hv, fun j hj => ⟨_, (hb1.cell (p := ⟨g, j, none⟩) hg3).trans (HC3.out j hj), ?_⟩, by have := hb1.size; omega, hg⟩
  rw [hc j hj, HX.out, HL2.out, List.append_assoc]

set_option maxHeartbeats 800000 in
theorem long (a0 : Option Addr) (len cap0 : Nat) (zs : List Int) (s : ByteArray) (w : World) (h0 : len ≤ 4096) (hs : s.size ≤ 4096)
    (hnil : a0 = none → len = 0 ∧ cap0 = 0) (hz : len ≤ zs.length) (hblk : ∀ x, a0 = some x → 0 < len → x.block < w.heap.size)
    (hcell : ∀ x, a0 = some x → ∀ i, i < zs.length → w.cell? (x.add i) = some (.int .u8 (zs.getD i 0))) :
    Calls Yba.prog 3 #[.slice a0 len cap0, .string s] w fun e w' => e = .returned (.bool true) ∧ Below w.heap.size w w' := by
  obtain ⟨bs, hbs⟩ : ∃ bs, bs = zs.take len := ⟨_, rfl⟩
  have hbl : bs.length = len := by rw [hbs]; simp; omega
  have hsrc : ∀ W, Below w.heap.size w W → ∀ ad, a0 = some ad → ∀ j u, (bs.map (Value.int .u8))[j]? = some u → W.cell? (ad.add j) = some u := by
    intro W hb ad had j u hu
    have h1 := cells_at (hcell ad had) len j u (by rw [← hbs]; exact hu)
    have hj : j < len := by have := (List.getElem?_eq_some_iff.1 hu).1; simp at this; omega
    rw [hb.cell (by rw [add_block]; exact hblk ad had (by omega))]
    exact h1
  clear hcell
  have HS : Hid (∀ W, Below w.heap.size w W → ∀ ad, a0 = some ad → ∀ j u, (bs.map (Value.int .u8))[j]? = some u → W.cell? (ad.add j) = some u) := hsrc
  clear hsrc
  have HN : Hid (a0 = none → len = 0 ∧ cap0 = 0) := hnil
  clear hnil hblk
  have HL : Hid (bs.length = len) := hbl
  clear hbl hbs
  go_enter Yba.func3, Yba.ntmps3
  go_wp2_with (first
    | (at_make; refine make_row Yba.row _ rfl (.tmp 20) (.tmp 20) rfl w.heap.size _ _ _ _ len rfl rfl rfl rfl (by omega) (by decide) w (Below.refl _ _) (Nat.le_refl _) ?_; intro w1 hown1 hb1 hs1 hs1')
    | (with_reducible refine at_copy ?_; refine copy_row Yba.row _ rfl (.tmp 22) (.tmp 23) rfl w.heap.size w.heap.size len _ rfl hown1 a0 len cap0 rfl bs (by rw [HL.out]; simp) (fun h => (HN.out h).1) (HS.out _ hb1) w hb1 ?_; intro w2 hown2 hb2 hb12)
    | (go_at_call 5; refine (esc_any w.heap.size _ len _ s _ h0 hs hown2 (by have := hb2.size; omega)).mono ?_; rintro e w3 ⟨v3, rfl, hown3, hb23⟩; have HB3 := hide_out HL hown3 hb2 hb23; clear hown1 hb1 hs1 hs1' hown2 hb2 hb12 hown3 hb23; obtain ⟨g, cap, rfl, hb3, hg3, HC3⟩ := HB3)
    | (at_make; refine make_room Yba.row _ rfl (.const (.int .i64 0)) (.tmp 34) rfl w3.heap.size _ _ _ (len + 2 * s.size + 2) rfl rfl (by omega) (by omega) (by decide) w3 (Below.refl _ _) (Nat.le_refl _) ?_; intro w4 hown4 hb4 hs4 hs4')
    | (at_builtin; refine app_row_any Yba.row _ rfl (.tmp 36) (.tmp 37) rfl w3.heap.size _ _ _ rfl hown4 bs a0 len cap0 rfl HL.out HN.out (HS.out _ (hb3.trans (hb4.mono hb3.size))) (by omega) (by decide) w3 hb4 hs4 ?_; intro v5 w5 hown5 hb5 hs5))
  have hown5' : w5.ownsRow w3.heap.size 5 1 v5 len (bs.map (Value.int .u8)) := by simpa using hown5
  clear hown5 hown4 hb4 hs4 hs4' HS HN hz
  go_loopw [7, 8] (fun v i wr => ∃ k : Nat, k ≤ s.size ∧ i = .int .i64 k ∧ wr.ownsRow w3.heap.size 5 1 v (len + (escL (s.data.toList.take k)).length) ((bs ++ escL (s.data.toList.take k)).map (Value.int .u8)) ∧ Below w3.heap.size w3 wr)
    (fun _ i _ => s.size - (intOf i).toNat)
  case atStart => exact ⟨0, Nat.zero_le _, rfl, by simpa [escL] using hown5', hb5⟩
  case round =>
    clear hown5' hb5 hs5
    obtain ⟨k, hk, rfl, hown, hnx⟩ := hrel
    have hbr : w3.heap.size ≤ wr.heap.size := hnx.size
    have hlen : (escL (s.data.toList.take k)).length ≤ 8192 := by have := escL_len (s.data.toList.take k); simp at this; omega
    obtain ⟨L, hL⟩ : ∃ L, L = escL (s.data.toList.take k) := ⟨_, rfl⟩
    rw [← hL] at hown hlen
    obtain ⟨X, hX⟩ : ∃ X, X = bs ++ L := ⟨_, rfl⟩
    rw [← hX] at hown
    have HX : Hid (X = bs ++ L) := hX
    clear hX
    by_cases hlt : k < s.size
    · have hsn : Hid (escL (s.data.toList.take (k + 1)) = L ++ escB s[k]) := by rw [take_snoc s k hlt, escL_snoc, hL]; rfl
      clear hL
      by_cases hc : s[k].toNat = 0
      · have hE : Hid (escB s[k] = [0, 255]) := by unfold escB; rw [if_pos hc]; rfl
        go_wp2_with (at_builtin; refine app_row Yba.row _ rfl (.tmp 50) (.tmp 51) rfl w3.heap.size _ _ _ rfl (hown.alloc _) [0, 255] _ 2 2 rfl rfl (cell_two_new _ _ _ _) (by omega) (by decide) w3 (hnx.alloc hbr _) (by simp; omega) ?_; intro v1 w1 hown1 hb1 hs1)
        go_roundw
        case rel =>
          refine ⟨k + 1, by omega, by go_num, ?_, hb1⟩
          rw [hsn.out, hE.out]
          rw [HX.out] at hown1
          simpa [Nat.add_assoc] using hown1
        case measure => simp [intOf]; omega
      · have hE : Hid (escB s[k] = [(s[k].toNat : Int)]) := by unfold escB; rw [if_neg hc]; rfl
        go_wp2_with (at_builtin; refine app_row Yba.row _ rfl (.tmp 53) (.tmp 55) rfl w3.heap.size _ _ _ rfl (hown.alloc _) [(s[k].toNat : Int)] _ 1 1 rfl rfl (cell_one_new _ _ _) (by omega) (by decide) w3 (hnx.alloc hbr _) (by simp; omega) ?_; intro v1 w1 hown1 hb1 hs1)
        go_roundw
        case rel =>
          refine ⟨k + 1, by omega, by go_num, ?_, hb1⟩
          rw [hsn.out, hE.out]
          rw [HX.out] at hown1
          simpa [Nat.add_assoc] using hown1
        case measure => simp [intOf]; omega
    · have HL2 : Hid (L = escL s.data.toList) := by rw [hL, List.take_of_length_le (by simp; omega)]; rfl
      clear hL
      obtain ⟨N, hN⟩ : ∃ N, N = len + (escL s.data.toList).length + 2 := ⟨_, rfl⟩
      rw [← hN] at HC3 ⊢
      have hN2 : Hid (len + L.length + 2 = N) := by rw [HL2.out]; exact hN.symm
      have hNb : N ≤ 20000 := by have := hN2.out; omega
      clear hN
      go_wp2_with (at_builtin; refine app_row Yba.row _ rfl (.tmp 57) (.tmp 58) rfl w3.heap.size _ _ _ rfl (hown.alloc _) [0, 1] _ 2 2 rfl rfl (cell_two_new _ _ _ _) (by omega) (by decide) w3 (hnx.alloc hbr _) (by simp; omega) ?_; intro v1 w1 hown1 hb1 hs1; have HO := out_want hN2 HX HL2 HC3 hg3 hown1 hb1; clear hown1 hown hnx; obtain ⟨g1, cap1, hv1, HC, hgg, hgg1⟩ := HO; rw [hv1]; clear hv1)
      go_loopw [10] (fun i wr => ∃ k : Nat, k ≤ N ∧ i = .int .i64 k ∧ Below w1.heap.size w1 wr)
        (fun i _ => N - (intOf i).toNat)
      case atStart => exact ⟨0, Nat.zero_le _, rfl, Below.refl _ _⟩
      case round =>
        obtain ⟨q, hq, rfl, hnx2⟩ := hrel
        by_cases hlt2 : q < N
        · obtain ⟨x, hx1, hx2⟩ := HC.out q hlt2
          have hy1 := cell_later hnx2 hx1
          have hy2 := cell_later hnx2 hx2
          have hi1 : (q : Int) < (N : Int) := by omega
          clear hx1 hx2
          go_wp2
          go_quiet (fail)
          go_wp2
          go_roundw
          case rel => exact ⟨q + 1, by omega, by go_num, below_drewN hnx2 _⟩
          case measure => simp [intOf]; omega
        · go_wp2
          go_ret
          exact ⟨rfl, (hb3.trans (hb1.mono hb3.size)).trans (hnx2.mono (by have := hb1.size; have := hb3.size; omega))⟩
end Go.Proofs.Ybulkcjzw.lawS4299AExact
