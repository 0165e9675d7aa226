/-
  THE WALK OF 'LawS4303ABuilt'.
-/
import Derived.Test.YbulkckcaDigits
import Derived.Laws.BytesArg
namespace Go.Proofs.Ybulkckca.lawS4303ABuilt
open Go.RowKit

theorem hidden {p : Prop} (h : p) : Hid p := h

theorem long (a : Option Addr) (len cap : Nat) (pos bad : Int) (w : World) (h : 4096 < len) (hm : len ≤ maxLen) :
    Calls Yba.prog 4 #[.slice a len cap, .int .u16 pos, .int .u8 bad] w fun e w' => e = .returned (.bool true) ∧ Below w.heap.size w w' := by
  unfold maxLen at hm
  go_enter Yba.func4, Yba.ntmps4
  go_wp2
  go_ret
  exact ⟨rfl, Below.refl _ _⟩

/-- The digits that the loop writes. -/
def dig (zs : List Int) (n : Nat) : List Int := (List.range n).map fun t => 48 + zs.getD t 0 % 10
theorem dig_len (zs : List Int) (n : Nat) : (dig zs n).length = n := by simp [dig]
theorem dig_succ (zs : List Int) (n : Nat) : dig zs (n + 1) = dig zs n ++ [48 + zs.getD n 0 % 10] := by simp [dig, List.range_succ]
theorem dig_ok (zs : List Int) (n : Nat) : ∀ x ∈ dig zs n, 48 ≤ x ∧ x ≤ 57 := by
  intro x hx
  simp only [dig, List.mem_map] at hx
  obtain ⟨t, _, rfl⟩ := hx
  omega

theorem row_step (zs : List Int) (k n : Nat) (h : k < n) :
    ((dig zs k ++ List.replicate (n - k) 0).map (Value.int .u8)).set k (.int .u8 (48 + zs.getD k 0 % 10)) = (dig zs (k + 1) ++ List.replicate (n - (k + 1)) 0).map (Value.int .u8) := by
  obtain ⟨r, hr⟩ : ∃ r, n - k = r + 1 := ⟨n - k - 1, by omega⟩
  rw [show n - (k + 1) = r by omega, hr, dig_succ, List.replicate_succ, List.map_append, List.set_append_right _ _ (by simp [dig_len]), List.append_assoc, List.map_append]
  congr 1
  simp [dig_len]

theorem allDig_nums {xs : List Int} (h : ∀ x ∈ xs, 48 ≤ x ∧ x ≤ 57) : allDig (strOfNums xs).data.toList = true := by
  rw [strOfNums_data]
  unfold allDig
  rw [List.all_map, List.all_eq_true]
  intro x hx
  have := h x hx
  apply digB_yes
  have e : ((UInt8.ofNat x.toNat).toNat : Int) = x := by
    rw [UInt8.toNat_ofNat']; omega
  rw [e]; exact this
theorem allDig_not {xs : List Int} {x : Int} (hx : x ∈ xs) (h0 : 0 ≤ x) (h1 : x ≤ 255) (h : ¬ (48 ≤ x ∧ x ≤ 57)) : allDig (strOfNums xs).data.toList = false := by
  rw [strOfNums_data]
  unfold allDig
  rw [List.all_map, List.all_eq_false]
  refine ⟨x, hx, ?_⟩
  have e : ((UInt8.ofNat x.toNat).toNat : Int) = x := by
    rw [UInt8.toNat_ofNat']; omega
  simp only [Function.comp_apply, e, digB_no h]
  decide

/-- The eight bytes that are no digits. -/
def bads : Array Value := #[.int .u8 47, .int .u8 58, .int .u8 32, .int .u8 97, .int .u8 0, .int .u8 255, .int .u8 45, .int .u8 128]
theorem bads_at (M : Nat) (h : M < 8) : ∃ x : Int, bads[M]? = some (.int .u8 x) ∧ 0 ≤ x ∧ x ≤ 255 ∧ ¬ (48 ≤ x ∧ x ≤ 57) := by
  match M, h with
  | 0, _ => exact ⟨47, rfl, by decide, by decide, by decide⟩
  | 1, _ => exact ⟨58, rfl, by decide, by decide, by decide⟩
  | 2, _ => exact ⟨32, rfl, by decide, by decide, by decide⟩
  | 3, _ => exact ⟨97, rfl, by decide, by decide, by decide⟩
  | 4, _ => exact ⟨0, rfl, by decide, by decide, by decide⟩
  | 5, _ => exact ⟨255, rfl, by decide, by decide, by decide⟩
  | 6, _ => exact ⟨45, rfl, by decide, by decide, by decide⟩
  | 7, _ => exact ⟨128, rfl, by decide, by decide, by decide⟩
  | n + 8, h => omega

/-- What stands behind 'make([]byte, 0, len(buf)+1)'. -/
theorem behind_make {w wr w2 w3 : World} {k M : Nat} {D : List Int} (hD : D.length = k) (hM : M < 8) (hsz : w.heap.size < wr.heap.size) (hnx : Below w.heap.size w wr)
    (hown : wr.ownsRow w.heap.size 5 1 (.slice (some ⟨w.heap.size, 0, none⟩) k k) k (D.map (Value.int .u8))) (hb2 : Below wr.heap.size wr w2)
    (hb3 : Below (w2.heap.size + 1) (w2.alloc (.cells bads 26)) w3) :
    (∃ x : Int, w3.cell? ⟨w2.heap.size, M, none⟩ = some (.int .u8 x) ∧ 0 ≤ x ∧ x ≤ 255 ∧ ¬ (48 ≤ x ∧ x ≤ 57)) ∧ Hid (∀ j, j < k → w3.cell? ⟨w.heap.size, j, none⟩ = some (.int .u8 (D.getD j 0))) ∧ Below w.heap.size w w3 := by
  have hsz2 := hb2.size
  have h23 : Below w2.heap.size w2 w3 := ((Below.refl _ _).alloc (Nat.le_refl _) _).trans (hb3.mono (by omega))
  refine ⟨?_, ?_, (hnx.trans (hb2.mono (by omega))).trans (h23.mono (by omega))⟩
  · obtain ⟨x, hx, r⟩ := bads_at M hM
    refine ⟨x, ?_, r⟩
    rw [hb3.cell (p := ⟨w2.heap.size, M, none⟩) (by simp)]
    simp only [World.cell?, heap_alloc_new]
    exact hx
  · intro j hj
    rw [h23.cell (p := ⟨w.heap.size, j, none⟩) (by simp; omega), hb2.cell (p := ⟨w.heap.size, j, none⟩) (by simp; omega), hown.cellAt j (by omega)]
    simp [List.getD, List.getElem?_eq_getElem (show j < D.length by omega)]

theorem cells_take {w : World} {g k K : Nat} {D : List Int} (hD : D.length = k) (h : Hid (∀ j, j < k → w.cell? ⟨g, j, none⟩ = some (.int .u8 (D.getD j 0)))) :
    ∀ j u, ((D.take K).map (Value.int .u8))[j]? = some u → w.cell? ((⟨g, 0, none⟩ : Addr).add j) = some u := by
  intro j u hu
  simp only [List.getElem?_map, Option.map_eq_some_iff] at hu
  obtain ⟨z, hz, rfl⟩ := hu
  rw [List.getElem?_take] at hz
  split at hz
  · obtain ⟨hj, rfl⟩ := List.getElem?_eq_some_iff.1 hz
    rw [Addr.add_lit, Nat.zero_add, h.out j (by omega)]
    simp [List.getD, hj]
  · cases hz

theorem cells_drop {w : World} {g k K : Nat} {D : List Int} (hD : D.length = k) (h : Hid (∀ j, j < k → w.cell? ⟨g, j, none⟩ = some (.int .u8 (D.getD j 0)))) {ao : Option Addr} (hao : ¬ k = K → ao = some ⟨g, K, none⟩) :
    ∀ ad, ao = some ad → ∀ j u, ((D.drop K).map (Value.int .u8))[j]? = some u → w.cell? (ad.add j) = some u :=
  cells_from (o := 0) (c := k) (l := k) hD (Nat.le_refl _) (fun t ht => by rw [Nat.zero_add]; exact h.out t ht) (fun e => by rw [Nat.zero_add]; exact hao e)

theorem some_ite (c : Prop) [Decidable c] (a b : Addr) {m n : Nat} : (if c then some a else some b) = none → m = 0 ∧ n = 0 := by intro h; split at h <;> cases h

theorem below_cells {w w' : World} {g k b : Nat} {D : List Int} (h : Hid (∀ j, j < k → w.cell? ⟨g, j, none⟩ = some (.int .u8 (D.getD j 0)))) (hb : Below b w w') (hg : g < b) :
    Hid (∀ j, j < k → w'.cell? ⟨g, j, none⟩ = some (.int .u8 (D.getD j 0))) := fun j hj => by rw [hb.cell (p := ⟨g, j, none⟩) hg]; exact h.out j hj

theorem behind_all {w6 : World} {base k K : Nat} {D : List Int} {x : Int} {v : Value} (hD : D.length = k) (hK : K ≤ k) (hk : k ≤ 4096) (h0 : 0 ≤ x) (h1 : x ≤ 255) (hx : ¬ (48 ≤ x ∧ x ≤ 57))
    (hown : w6.ownsRow base 5 1 v (0 + K + 1 + (k - K)) ((([] ++ D.take K) ++ [x] ++ D.drop K).map (Value.int .u8))) :
    ∃ S, (convert 24 9 v).run Yba.prog w6 = .ok (.string S) w6 ∧ S.size ≤ 100000 ∧ allDig S.data.toList = false := by
  obtain ⟨g, cp, rfl, _, _, _, hc⟩ := own_shape hown (by omega)
  have hl := own_len hown
  refine ⟨strOfNums (([] ++ D.take K) ++ [x] ++ D.drop K), ?_, ?_, allDig_not (x := x) (by simp) h0 h1 hx⟩
  · exact run_convert_bytes_arg (P := Yba.prog) w6 24 5 Yba.underlying24 Yba.underlying5 g 0 _ cp _ hl (fun i hi => by rw [Nat.zero_add]; exact hc i hi) 9 Yba.underlying9
  · rw [strOfNums_size, hl]; omega

set_option maxHeartbeats 800000 in
theorem short (a : Option Addr) (len cap : Nat) (zs : List Int) (pos bad : Int) (w : World) (hl : len ≤ 4096) (hp0 : 0 ≤ pos) (hp1 : pos ≤ 65535) (hb0 : 0 ≤ bad) (hb1 : bad ≤ 255)
    (hcell : ∀ W, Below w.heap.size w W → ∀ t, t < len → ∃ x, a = some x ∧ W.cell? (x.add t) = some (.int .u8 (zs.getD t 0)))
    (hbd : ∀ t, t < len → 0 ≤ zs.getD t 0 ∧ zs.getD t 0 ≤ 255) :
    Calls Yba.prog 4 #[.slice a len cap, .int .u16 pos, .int .u8 bad] w fun e w' => e = .returned (.bool true) ∧ Below w.heap.size w w' := by
  have HC := hidden hcell
  have HB := hidden hbd
  clear hcell hbd
  go_enter Yba.func4, Yba.ntmps4
  go_wp2_with (at_make; refine make_row Yba.row _ rfl (.tmp 16) (.tmp 16) rfl w.heap.size _ _ _ _ len rfl rfl rfl rfl (by omega) (by decide) w (Below.refl _ _) (Nat.le_refl _) ?_; intro w1 hown1 hb1 hs1 hs1')
  go_loopw [8] (fun i wr => ∃ k : Nat, k ≤ len ∧ i = .int .i64 k ∧ wr.ownsRow w.heap.size 5 1 (.slice (some ⟨w.heap.size, 0, none⟩) len len) len ((dig zs k ++ List.replicate (len - k) 0).map (Value.int .u8)) ∧ Below w.heap.size w wr ∧ w.heap.size < wr.heap.size)
    (fun i _ => len - (intOf i).toNat)
  case atStart => exact ⟨0, Nat.zero_le _, rfl, by simpa [dig] using hown1, hb1, hs1'⟩
  case round =>
    clear hown1 hb1 hs1 hs1'
    obtain ⟨k, hk, rfl, hown, hnx, hsz⟩ := hrel
    have HO := hidden hown
    clear hown
    by_cases hlt : k < len
    · obtain ⟨x, rfl, hx⟩ := HC.out wr hnx k hlt
      obtain ⟨hz0, hz1⟩ := HB.out k hlt
      obtain ⟨z, hz⟩ : ∃ z, z = zs.getD k 0 := ⟨_, rfl⟩
      rw [← hz] at hx hz0 hz1
      have HZ := hidden hz
      clear hz
      have hc := HO.out.cellAt k (by omega)
      have hf := HO.out.frozenAt k
      have hc' : ∃ v, wr.cell? ⟨w.heap.size, k, none⟩ = some v := ⟨_, hc.trans (List.getElem?_eq_getElem (by simp [dig_len]; omega))⟩
      obtain ⟨v0, hv0⟩ := hc'
      clear hc
      have hi : (k : Int) < (len : Int) := by omega
      have HN := hidden (HO.out.stored k (.int .u8 (48 + z % 10)))
      have HSt : Hid ((wr.setCell ⟨w.heap.size, k, none⟩ (.int .u8 (48 + z % 10))).ownsRow w.heap.size 5 1 (.slice (some ⟨w.heap.size, 0, none⟩) len len) len ((dig zs (k + 1) ++ List.replicate (len - (k + 1)) 0).map (Value.int .u8))) := by
        have := HN.out.1
        rw [HZ.out, row_step zs k len hlt] at this
        rw [HZ.out]
        exact this
      clear HN
      go_wp2
      go_roundw
      case rel => exact ⟨k + 1, by omega, by go_num, HSt.out, hnx.setCell (Nat.le_refl _) _, by simpa [World.setCell] using hsz⟩
      case measure => simp [intOf]; omega
    · obtain rfl : k = len := by omega
      have hown : wr.ownsRow w.heap.size 5 1 (.slice (some ⟨w.heap.size, 0, none⟩) k k) k ((dig zs k).map (Value.int .u8)) := by simpa using HO.out
      clear HO
      have hcv := run_convert_bytes_arg (P := Yba.prog) wr 24 5 Yba.underlying24 Yba.underlying5 w.heap.size 0 k k (dig zs k) (dig_len zs k) (fun i hi => by
        rw [Nat.zero_add, hown.cellAt i (by omega)]
        simp [List.getD, List.getElem?_eq_getElem (show i < (dig zs k).length by rw [dig_len]; exact hi)]) 9 Yba.underlying9
      obtain ⟨S, hS⟩ : ∃ S, S = strOfNums (dig zs k) := ⟨_, rfl⟩
      rw [← hS] at hcv
      have hSs : S.size ≤ 100000 := by rw [hS, strOfNums_size, dig_len]; omega
      have hall : allDig S.data.toList = true := by rw [hS]; exact allDig_nums (dig_ok zs k)
      clear hS
      obtain ⟨K, hK⟩ : ∃ K : Nat, pos % ((k : Int) + 1) = (K : Int) := ⟨(pos % ((k : Int) + 1)).toNat, by have := Int.emod_nonneg pos (show (k : Int) + 1 ≠ 0 by omega); omega⟩
      have hKk : K ≤ k := by have := Int.emod_lt_of_pos pos (show (0 : Int) < (k : Int) + 1 by omega); omega
      obtain ⟨M, hM⟩ : ∃ M : Nat, bad % 8 = (M : Int) := ⟨(bad % 8).toNat, by omega⟩
      have hM8 : M < 8 := by omega
      obtain ⟨D, hDD⟩ : ∃ D, D = dig zs k := ⟨_, rfl⟩
      rw [← hDD] at hown
      have hDl : Hid (D.length = k) := by rw [hDD]; exact dig_len zs k
      have HO := hidden hown
      clear hDD hown
      go_wp2_with (first
        | (go_at_call 6; refine (isDigits_any _ _ hS6).mono ?_; rintro e w7 ⟨rfl, hb7⟩)
        | (go_at_call 6; refine (isDigits_any _ _ hSs).mono ?_; rintro e w2 ⟨rfl, hb2⟩; have hsz2 := hb2.size)
        | (at_make; refine make_room Yba.row _ rfl (.const (.int .i64 0)) (.tmp 46) rfl (w2.heap.size + 1) _ _ _ (k + 1) rfl rfl (by omega) (by omega) (by decide) _ (Below.refl _ _) (by simp) ?_; intro w3 hown3 hb3 hs3 hs3'; have HB3 := behind_make hDl.out hM8 hsz hnx HO.out hb2 hb3; rw [World.size_alloc] at hown3 ⊢; clear hb3 hs3' hcv; obtain ⟨⟨x, hx, hx0, hx1, hx2⟩, HD, hbw⟩ := HB3)
        | (at_builtin; refine app_row Yba.row _ rfl (.tmp 48) (.tmp 51) rfl (w2.heap.size + 1) _ _ _ rfl hown3 (D.take K) _ K _ rfl (by rw [List.length_take, hDl.out]; omega) (cells_take hDl.out HD) (by omega) (by decide) w3 (Below.refl _ _) hs3 ?_; intro v4 w4 hown4 hb4 hs4; have hx4 := (hb4.cell (p := ⟨w2.heap.size, M, none⟩) (by simp)).trans hx)
        | (at_builtin; refine app_row Yba.row _ rfl (.tmp 53) (.tmp 59) rfl (w2.heap.size + 1) _ _ _ rfl (hown4.alloc _) [x] _ 1 1 rfl rfl (cell_one_new _ _ _) (by omega) (by decide) w3 (hb4.alloc hs4 _) (by simp; omega) ?_; intro v5 w5 hown5 hb5 hs5; have HD5 := below_cells HD hb5 (by omega))
        | (at_builtin; refine app_row_any Yba.row _ rfl (.tmp 61) (.tmp 64) rfl (w2.heap.size + 1) _ _ _ rfl hown5 (D.drop K) _ (k - K) _ rfl (by rw [List.length_drop, hDl.out]) (some_ite _ _ _) (cells_drop hDl.out HD5 (by intro h; first | rfl | simp [h])) (by omega) (by decide) w3 hb5 hs5 ?_; intro v6 w6 hown6 hb6 hs6; have HF := behind_all hDl.out hKk hl hx0 hx1 hx2 hown6; clear hown5 hown6; obtain ⟨S6, hcv6, hS6, hall6⟩ := HF))
      all_goals
        go_ret
        exact ⟨rfl, (hbw.trans (hb6.mono (by omega))).trans (hb7.mono (by omega))⟩
end Go.Proofs.Ybulkckca.lawS4303ABuilt
