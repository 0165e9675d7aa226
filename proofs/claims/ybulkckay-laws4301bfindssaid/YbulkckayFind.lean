/-
  THE TREE IN MEMORY; 'find' BY ITS CONTRACT.
-/
import Derived.Test.YbulkckayPlain
import Derived.WalkKit
import Derived.ProofKit
import Derived.WalkSpells
import Derived.WalkSmall
namespace Go.Proofs.Ybulkckay
open Go.RowKit

def ptr (blk : Nat → Nat) : Option Nat → Value
  | none => .pointer none
  | some i => .pointer (some ⟨blk i, 0, none⟩)

theorem ptr_none (blk : Nat → Nat) : ptr blk none = .pointer none := rfl
theorem ptr_some (blk : Nat → Nat) (i : Nat) : ptr blk (some i) = .pointer (some ⟨blk i, 0, none⟩) := rfl

/-- A level's eleven cells. -/
def nodeCells (k : Int) (l r : Value) : Array Value :=
  #[.int .i64 k, .int .u8 2, .int .i64 k, .int .u64 0, .int .u64 0, .int .i64 0, .pointer none, .pointer none, l, r, .int .i64 1]

structure Tr (w : World) (S m : Nat) (key : Nat → Int) (blk : Nat → Nat) (L R : Nat → Option Nat) : Prop where
  node : ∀ i, i < m → w.heap[blk i]? = some (.cells (nodeCells (key i) (ptr blk (L i)) (ptr blk (R i))) 34 (0, 0))
  mono : ∀ i j, i < j → j < m → blk i < blk j
  low : ∀ i, i < m → S < blk i

theorem Tr.lt {w : World} {S m : Nat} {key : Nat → Int} {blk : Nat → Nat} {L R : Nat → Option Nat} (h : Tr w S m key blk L R) {i : Nat} (hi : i < m) : blk i < w.heap.size := lt_of_block (h.node i hi)

theorem Tr.cells {w : World} {S m : Nat} {key : Nat → Int} {blk : Nat → Nat} {L R : Nat → Option Nat} (h : Tr w S m key blk L R) {i : Nat} (hi : i < m) :
    w.cell? ⟨blk i, 0, none⟩ = some (.int .i64 (key i)) ∧ w.cell? ⟨blk i, 8, none⟩ = some (ptr blk (L i)) ∧ w.cell? ⟨blk i, 9, none⟩ = some (ptr blk (R i)) ∧
    w.frozen? ⟨blk i, 8, none⟩ = false ∧ w.frozen? ⟨blk i, 9, none⟩ = false := by
  have h0 := h.node i hi
  refine ⟨?_, ?_, ?_, ?_, ?_⟩ <;> simp [World.cell?, World.frozen?, h0, nodeCells]

/-- How far a pointer lies from the heap's end; nil: 0. -/
def rank (H : Nat) : Value → Nat
  | .pointer (some a) => H - a.block
  | _ => 0

set_option maxHeartbeats 800000 in
theorem find_any {w : World} {S m : Nat} {key : Nat → Int} {blk : Nat → Nat} {L R : Nat → Option Nat} (p : Int) (best : Value) (ht : Tr w S m key blk L R) (hs : Shape m key L R)
    (hroot : w.heap[S]? = some (.cells #[ptr blk (rootOf m), best] 36 (0, 0))) :
    Calls Yba.prog 5 #[.pointer (some ⟨S, 0, none⟩), .int .i64 p] w fun e w' => e = .returned (ptr blk (go key L R p m (rootOf m))) ∧ w' = w := by
  have hr0 : w.cell? ⟨S, 0, none⟩ = some (ptr blk (rootOf m)) := by simp [World.cell?, hroot]
  obtain ⟨G, hG⟩ : ∃ G, G = go key L R p m (rootOf m) := ⟨_, rfl⟩
  obtain ⟨X, hX⟩ : ∃ X, X = rootOf m := ⟨_, rfl⟩
  rw [← hG]
  rw [← hX] at hr0
  have HT : Hid (Tr w S m key blk L R) := ht
  have HG : Hid (go key L R p m X = G) := by rw [hX]; exact hG.symm
  have HX : Hid (∀ i, X = some i → i < m ∧ m ≤ m + i) := by intro i hi; rw [hX] at hi; exact ⟨rootOf_lt hi, by omega⟩
  clear hroot ht hG hX
  go_enter Yba.func5, Yba.ntmps5
  go_wp2
  go_loop [5] (fun n => ∃ f x, n = ptr blk x ∧ (∀ i, x = some i → i < m ∧ m ≤ f + i) ∧ go key L R p f x = G) (fun n => rank w.heap.size n)
  case atStart => exact ⟨m, X, rfl, HX.out, HG.out⟩
  case round =>
    obtain ⟨f, x, rfl, hx, hg⟩ := hrel
    cases x with
    | none =>
      rw [ptr_none]
      go_wp2
      go_ret
      refine ⟨?_, rfl⟩
      cases f <;> (simp [go] at hg; subst hg; rfl)
    | some i =>
      obtain ⟨hi, hf⟩ := hx i rfl
      obtain ⟨c0, c8, c9, _, _⟩ := HT.out.cells hi
      obtain ⟨f, rfl⟩ : ∃ f', f = f' + 1 := ⟨f - 1, by omega⟩
      have hlt := HT.out.lt hi
      have nx : ∀ c, (L i = some c ∨ R i = some c) → Hid ((c < m ∧ m ≤ f + c) ∧ w.heap.size - blk c < w.heap.size - blk i) := by
        intro c hc
        have h1 := hs.lr i hi c hc
        have h2 := HT.out.mono i c h1.1 h1.2
        have h3 := HT.out.lt h1.2
        exact ⟨⟨h1.2, by omega⟩, by omega⟩
      have rk : ∀ x, (x = L i ∨ x = R i) → Hid (rank w.heap.size (ptr blk x) < rank w.heap.size (.pointer (some ⟨blk i, 0, none⟩))) := by
        intro x hx
        cases x with
        | none => show 0 < w.heap.size - blk i; omega
        | some c => exact (nx c (by rcases hx with h | h <;> simp [← h])).out.2
      rw [go.eq_3] at hg
      rw [ptr_some]
      by_cases hk : key i = p
      · rw [if_pos hk] at hg
        subst hg
        clear hx nx rk
        go_wp2
        go_ret
        exact ⟨rfl, rfl⟩
      · rw [if_neg hk] at hg
        by_cases hlt2 : p < key i
        · rw [if_pos hlt2] at hg
          have NX := show Hid _ from nx
          have RK := (rk (L i) (.inl rfl))
          have HGG := show Hid _ from hg
          clear hx nx rk hg
          go_wp2
          go_round
          case rel => exact ⟨f, L i, rfl, fun c hc => (NX.out c (.inl hc)).out.1, HGG.out⟩
          case measure => exact RK.out
        · rw [if_neg hlt2] at hg
          have NX := show Hid _ from nx
          have RK := (rk (R i) (.inr rfl))
          have HGG := show Hid _ from hg
          clear hx nx rk hg
          go_wp2
          go_round
          case rel => exact ⟨f, R i, rfl, fun c hc => (NX.out c (.inr hc)).out.1, HGG.out⟩
          case measure => exact RK.out
end Go.Proofs.Ybulkckay
