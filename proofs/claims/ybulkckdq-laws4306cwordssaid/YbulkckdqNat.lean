/-
  ROWS OF WORDS (math/big.nat) IN MEMORY; nat.make, nat.norm, bits.Add, addVV, addVW BY THEIR CONTRACTS.
-/
import Derived.Test.YbulkckdqOwn
import Derived.Deep.QuietTactic
import Derived.BigQuiet
import Derived.Lib.Builder
import Derived.LaidEqlPtr
import Derived.Laws.Twins
namespace Go.Proofs.Ybulkckdq
open Go.RowKit

theorem hidden {p : Prop} (h : p) : Hid p := h
theorem Yba.info39 : (Yba.prog.info? 39).map (fun i => (i.zero, i.size, i.bytes)) = some (some (.int .u64 0), 1, 8) := by kernel_rfl

/-- Block g is a row of words C. -/
def Rw (w : World) (g : Nat) (C : List Int) : Prop := w.heap[g]? = some (.cells (C.map (Value.int .u64)).toArray 39 (0, 0))

section
variable {w w' : World} {g : Nat} {C : List Int}
theorem Rw.lt (h : Rw w g C) : g < w.heap.size := lt_of_block h
theorem Rw.cell (h : Rw w g C) {j : Nat} (hj : j < C.length) : w.cell? ⟨g, j, none⟩ = some (.int .u64 (C.getD j 0)) := by
  have h' : w.heap[g]? = _ := h
  simp [World.cell?, h', List.getD, hj]
theorem Rw.free (h : Rw w g C) (j : Nat) : w.frozen? ⟨g, j, none⟩ = false := by
  have h' : w.heap[g]? = _ := h
  simp [World.frozen?, h']
theorem Rw.drewN (h : Rw w g C) (n : Nat) : Rw (w.drewN n) g C := h
theorem Rw.drew (h : Rw w g C) : Rw w.drew g C := h
theorem Rw.alloc (h : Rw w g C) (o : Obj) : Rw (w.alloc o) g C := by
  have hl := h.lt
  unfold Rw
  rw [Below.heap_alloc _ _ _ hl]; exact h
theorem Rw.new (w : World) (C : List Int) : Rw (w.alloc (.cells (C.map (Value.int .u64)).toArray 39)) w.heap.size C := heap_alloc_new w _
theorem Rw.set (h : Rw w g C) (j : Nat) (x : Int) : Rw (w.setCell ⟨g, j, none⟩ (.int .u64 x)) g (C.set j x) := by
  have h' : w.heap[g]? = _ := h
  have := heap_setCell_same w g j _ 39 (.int .u64 x) h'
  unfold Rw
  rw [this]
  simp
theorem Rw.other (h : Rw w g C) {a : Addr} (ha : g ≠ a.block) (u : Value) : Rw (w.setCell a u) g C := by
  unfold Rw
  rw [Below.heap_setCell _ _ _ _ ha]; exact h
theorem Rw.setRow (h : Rw w g C) (D : List Int) : Rw (w.setRow g (D.map (Value.int .u64)).toArray) g D := setRow_heap w g _ _ 39 _ h
theorem Rw.kept (h : Rw w g C) {row : Option Nat} (hg : w.grownBy w' row) (hne : some g ≠ row) : Rw w' g C := by
  unfold Rw
  rw [hg.block g h.lt hne]; exact h
end

theorem zeros (n : Nat) : madeCells (Value.cells (.int .u64 0)) n = ((List.replicate n (0 : Int)).map (Value.int .u64)).toArray := by
  have := madeCells_ints (k := .u64) n
  rw [Nat.mul_one] at this
  rw [← this]

/-- A new row of zeros. -/
def zrow (n : Nat) : Obj := .cells ((List.replicate n (0 : Int)).map (Value.int .u64)).toArray 39
theorem Rw.zrow (w : World) (n : Nat) : Rw (w.alloc (zrow n)) w.heap.size (List.replicate n 0) := Rw.new w _

/-- 'make(nat, l, c)'. -/
theorem run_makeNat (w : World) (l c : Nat) (h : l ≤ c) (hc : c ≤ 1000000) :
    (Instr.makeSlice 31 (.int .i64 (l : Int)) (.int .i64 (c : Int))).run Yba.prog w = .ok (.slice (some ⟨w.heap.size, 0, none⟩) l c) (w.alloc (zrow c)) := by
  obtain ⟨i, hi, hz0, hz1, hz2⟩ := info_parts Yba.info39
  have := run_make (P := Yba.prog) w 31 39 i (.int .u64 0) Yba.underlying31 hi hz0 .i64 .i64 l c (by omega) (by omega) (by rw [hz2]; omega) (by omega)
  rw [this, hz1, Nat.mul_one, Int.toNat_natCast, Int.toNat_natCast, zeros]
  rfl

/-- nat.make where there is room. -/
theorem make_reuse (g n c k : Nat) (w : World) (h : k ≤ c) (h0 : 0 < c) (hc : c ≤ 1000000) :
    Calls Yba.prog 26 #[.slice (some ⟨g, 0, none⟩) n c, .int .i64 k] w fun e w' => e = .returned (.slice (some ⟨g, 0, none⟩) k c) ∧ w' = w := by
  go_enter Yba.func26, Yba.ntmps26
  go_wp2
  go_ret
  exact ⟨rfl, rfl⟩
/-- nat.make where there is none. -/
theorem make_new (a : Option Addr) (n c k : Nat) (w : World) (h : c < k) (h1 : 1 < k) (hc : k ≤ 100000) :
    Calls Yba.prog 26 #[.slice a n c, .int .i64 k] w fun e w' => e = .returned (.slice (some ⟨w.heap.size, 0, none⟩) k (k + 4)) ∧ w' = w.alloc (zrow (k + 4)) := by
  have hmk := run_makeNat w k (k + 4) (by omega) (by omega)
  rw [show ((k + 4 : Nat) : Int) = (k : Int) + 4 by omega] at hmk
  have hne : ((k : Int) == 1) = false := by simp; omega
  go_enter Yba.func26, Yba.ntmps26
  go_wp2
  go_ret
  exact ⟨rfl, rfl⟩
/-- nat.make of one word onto nil. -/
theorem make_one (w : World) :
    Calls Yba.prog 26 #[.slice none 0 0, .int .i64 1] w fun e w' => e = .returned (.slice (some ⟨w.heap.size, 0, none⟩) 1 1) ∧ w' = w.alloc (zrow 1) := by
  have hmk : (Instr.makeSlice 31 (.int .i64 1) (.int .i64 1)).run Yba.prog w = .ok (.slice (some ⟨w.heap.size, 0, none⟩) 1 1) (w.alloc (zrow 1)) := run_makeNat w 1 1 (by omega) (by omega)
  go_enter Yba.func26, Yba.ntmps26
  go_wp2
  go_ret
  exact ⟨rfl, rfl⟩

/-- nat.norm where the top word is 0 and the next is not. -/
theorem norm_one (g k c : Nat) (C : List Int) (w : World) (hC : Rw w g C) (hl : C.length = c) (hk : 0 < k) (hkc : k + 1 ≤ c) (hc : c ≤ 1000000) (h0 : C.getD k 0 = 0) (h1 : C.getD (k - 1) 0 ≠ 0) :
    Calls Yba.prog 28 #[.slice (some ⟨g, 0, none⟩) (k + 1) c] w fun e w' => e = .returned (.slice (some ⟨g, 0, none⟩) k c) ∧ w' = w := by
  have c0 := hC.cell (j := k) (by omega)
  have c1 := hC.cell (j := k - 1) (by omega)
  rw [h0] at c0
  obtain ⟨x, hx⟩ : ∃ x, x = C.getD (k - 1) 0 := ⟨_, rfl⟩
  rw [← hx] at c1 h1
  have hx0 : (x == 0) = false := by simpa using h1
  clear hx h0 hC hl
  obtain ⟨j, rfl⟩ : ∃ j, k = j + 1 := ⟨k - 1, by omega⟩
  rw [Nat.add_sub_cancel] at c1
  go_enter Yba.func28, Yba.ntmps28
  go_wp2
  go_loop [3] (fun i => ∃ t : Nat, i = .int .i64 t ∧ (t = j + 1 + 1 ∨ t = j + 1)) (fun i => (intOf i).toNat)
  case atStart => exact ⟨j + 1 + 1, by go_num, .inl rfl⟩
  case round =>
    obtain ⟨t, rfl, ht⟩ := hrel
    rcases ht with rfl | rfl
    · go_wp2
      go_round
      case rel => exact ⟨j + 1, by go_num, .inr rfl⟩
      case measure => simp [intOf]; omega
    · go_wp2
      go_ret
      exact ⟨rfl, rfl⟩

theorem add64_0 (x y : Int) (hx : 0 ≤ x) (hy : 0 ≤ y) (hs : x + y < 18446744073709551616) (w : World) : (callFunc 37 #[.int .u64 x, .int .u64 y, .int .u64 0]).run Yba.prog w = .ok (.value (.tuple #[.int .u64 (x + y), .int .u64 0])) w := by
  rw [run_callFunc_extern Yba.func37 (by kernel_rfl) (by kernel_rfl) (by kernel_rfl) (e := add64Entry) (by kernel_rfl), run_add64 x y 0 hx hy (by omega) (by omega)]
  simp only [Result.andThen, Int.add_zero]
  rw [Int.emod_eq_of_lt (by omega) hs, Int.ediv_eq_zero_of_lt (by omega) hs]

/-- bits.Add without a carry in or out. -/
theorem bitsAdd (x y : Int) (hx : 0 ≤ x) (hy : 0 ≤ y) (hs : x + y < 18446744073709551616) (w : World) :
    Calls Yba.prog 31 #[.int .u64 x, .int .u64 y, .int .u64 0] w fun e w' => e = .returned (.tuple #[.int .u64 (x + y), .int .u64 0]) ∧ w' = w := by
  have h := add64_0 x y hx hy hs
  clear hs
  go_enter Yba.func31, Yba.ntmps31
  go_wp2
  go_ret2
  exact ⟨rfl, rfl⟩

/-- addVV of one word, without a carry out. -/
theorem addVV_one (gz cz gx cx gy cy : Nat) (x y : Int) (zv : Value) (w : World) (hx : 0 ≤ x) (hy : 0 ≤ y) (hs : x + y < 18446744073709551616)
    (cxv : w.cell? ⟨gx, 0, none⟩ = some (.int .u64 x)) (cyv : w.cell? ⟨gy, 0, none⟩ = some (.int .u64 y)) (czv : w.cell? ⟨gz, 0, none⟩ = some zv) (fz : w.frozen? ⟨gz, 0, none⟩ = false) :
    Calls Yba.prog 12 #[.slice (some ⟨gz, 0, none⟩) 1 cz, .slice (some ⟨gx, 0, none⟩) 1 cx, .slice (some ⟨gy, 0, none⟩) 1 cy] w fun e w' => e = .returned (.int .u64 0) ∧ ∃ nq, w' = (w.setCell ⟨gz, 0, none⟩ (.int .u64 (x + y))).drewN nq := by
  have HS := hidden hs
  clear hs
  go_enter Yba.func12, Yba.ntmps12
  go_wp2
  go_loopw [6, 25] (fun c i wr => c = .int .u64 0 ∧ ((i = .int .i64 0 ∧ wr = w) ∨ (i = .int .i64 1 ∧ ∃ nq, wr = (w.setCell ⟨gz, 0, none⟩ (.int .u64 (x + y))).drewN nq))) (fun _ i _ => 1 - (intOf i).toNat)
  case atStart => exact ⟨rfl, .inl ⟨rfl, rfl⟩⟩
  case round =>
    obtain ⟨rfl, h⟩ := hrel
    rcases h with ⟨rfl, rfl⟩ | ⟨rfl, nq, rfl⟩
    · go_wp2
      go_quiet ((go_at_call 31; exact Calls.quiet_of_same (bitsAdd _ _ hx hy HS.out _)))
      go_wp2
      go_roundw
      case rel => exact ⟨rfl, .inr ⟨by go_num, _, rfl⟩⟩
      case measure => simp [intOf]
    · go_wp2
      go_ret
      exact ⟨rfl, nq, rfl⟩
end Go.Proofs.Ybulkckdq
