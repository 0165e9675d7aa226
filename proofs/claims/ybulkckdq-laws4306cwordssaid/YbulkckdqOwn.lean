/-
  ROWS OF NUMBERS THAT THE CALL ITSELF OWNS: append, make, copy as laws for the walk, each with its 'Below'. Of whatever program and slice type.
-/
import Derived.Test.YbulkckdqRows
import Derived.WalkKit
import Derived.ProofKit
import Derived.WalkSpells
import Derived.WalkSmall
import Derived.Laws.CopyOwn
import Derived.Laws.AppendOwnNone
namespace Go.Proofs.Ybulkckdq
open Go.RowKit

/-- A slice type t of elements e, each one number of kind k, B bytes wide. -/
structure Row1 (P : Program) (t e : TypeId) (k : IntKind) (B : Nat) : Prop where
  ht : P.underlying t = some (.slice e)
  info : (P.info? e).map (fun i => (i.zero, i.size, i.bytes)) = some (some (.int k 0), 1, B)

theorem Row1.one {P : Program} {t e : TypeId} {k : IntKind} {B : Nat} (R : Row1 P t e k B) : (P.info? e).map (·.size) = some 1 := by
  obtain ⟨i, hi, _, h, _⟩ := info_parts R.info
  rw [hi]; simp [h]

/-- What is owned, read: an address, its cells. -/
theorem own_shape {w : World} {base : Nat} {e : TypeId} {k : IntKind} {v : Value} {n : Nat} {zs : List Int} (h : w.ownsRow base e 1 v n (zs.map (Value.int k))) (hn : 0 < n) :
    ∃ g cap, v = .slice (some ⟨g, 0, none⟩) n cap ∧ base ≤ g ∧ g < w.heap.size ∧ n ≤ cap ∧ ∀ j, j < n → w.cell? ⟨g, j, none⟩ = some (.int k (zs.getD j 0)) := by
  have hl := h.1
  simp only [List.length_map, Nat.mul_one] at hl
  have hc := fun g hg => h.cells (g := g) hg
  have hlt := h.lt
  rcases h.2 with ⟨rfl, h0⟩ | ⟨g, cap, cur, rfl, hb, hg, hnc, _⟩
  · omega
  · refine ⟨g, cap, rfl, hb, (hlt g rfl).2, hnc, fun j hj => ?_⟩
    have := hc g rfl j (.int k (zs.getD j 0)) (by simp [List.getD, List.getElem?_eq_getElem (show j < zs.length by omega)])
    rwa [Addr.add_lit, Nat.zero_add] at this

theorem own_len {w : World} {base : Nat} {e : TypeId} {k : IntKind} {v : Value} {n : Nat} {zs : List Int} (h : w.ownsRow base e 1 v n (zs.map (Value.int k))) : zs.length = n := by
  have := h.1; simpa using this

/-- Below another base: what lies under it stays owned. -/
theorem own_below {w w' : World} {base B : Nat} {e : TypeId} {v : Value} {n : Nat} {xs : List Value} (h : w.ownsRow base e 1 v n xs) (hb : Below B w w') (hB : w.heap.size ≤ B) : w'.ownsRow base e 1 v n xs := by
  refine ⟨h.1, ?_⟩
  rcases h.2 with h0 | ⟨g, cap, cur, hv, hg, hh, r⟩
  · exact .inl h0
  · have hlt := (Array.getElem?_eq_some_iff.1 hh).1
    exact .inr ⟨g, cap, cur, hv, hg, by rw [hb.block g (by omega)]; exact hh, r⟩

section
variable {P : Program} {t e : TypeId} {k : IntKind} {B : Nat} {ops : Array Oper} {rest : List Oper} {o : Oper} {a : Act} {Q : Exit → Act → World → Prop}

/-- 'out = append(out, numbers...)', out a row of the call's own. -/
theorem app_row (R : Row1 P t e k B) (w : World) (hgd : o.guard = none) (s x : Operand)
    (ho : o.op = .call { callee := .builtin .append, args := #[s, x], argTypes := #[t, t] })
    (base : Nat) (v : Value) (n : Nat) (xs : List Int) (hs : a.eval s = v) (hown : w.ownsRow base e 1 v n (xs.map (Value.int k)))
    (zs : List Int) (ad : Addr) (m c : Nat) (hx : a.eval x = .slice (some ad) m c) (hl : zs.length = m) (hnews : ∀ j u, (zs.map (Value.int k))[j]? = some u → w.cell? (ad.add j) = some u)
    (hn : n + m ≤ 1000000000) (hB : B ≤ 16) (w0 : World) (hb : Below base w0 w) (hbase : base ≤ w.heap.size)
    (h : ∀ v' w', w'.ownsRow base e 1 v' (n + m) ((xs ++ zs).map (Value.int k)) → Below base w0 w' → base ≤ w'.heap.size → wpList P ops Q rest (a.put o.dst v') w') :
    wpList P ops Q (o :: rest) a w := by
  obtain ⟨i0, hi, hz0, hz1, hz2⟩ := info_parts R.info
  refine wpList_append_own w hgd s x t ho base e i0 (.int k 0) 1 B R.ht hi hz0 hz1 hz2 rfl (by decide) v n _ hs hown ad m c (zs.map (Value.int k)) hx (by simp [hl]) hnews (ints_oneCell _ _) (by unfold maxLen; omega) (Nat.le_trans (Nat.mul_le_mul hn hB) (by decide)) hbase ?_
  intro v' w' h1 h2 _
  exact h v' w' (by rw [List.map_append]; exact h1) (hb.grown h2 hbase (fun k hk => (hown.lt k hk).1)) (by have := h2.size; omega)

/-- The same from a source that may be nil. -/
theorem app_row_any (R : Row1 P t e k B) (w : World) (hgd : o.guard = none) (s x : Operand)
    (ho : o.op = .call { callee := .builtin .append, args := #[s, x], argTypes := #[t, t] })
    (base : Nat) (v : Value) (n : Nat) (xs : List Int) (hs : a.eval s = v) (hown : w.ownsRow base e 1 v n (xs.map (Value.int k)))
    (zs : List Int) (ao : Option Addr) (m c : Nat) (hx : a.eval x = .slice ao m c) (hl : zs.length = m) (hnone : ao = none → m = 0 ∧ c = 0) (hnews : ∀ ad, ao = some ad → ∀ j u, (zs.map (Value.int k))[j]? = some u → w.cell? (ad.add j) = some u)
    (hn : n + m ≤ 1000000000) (hB : B ≤ 16) (w0 : World) (hb : Below base w0 w) (hbase : base ≤ w.heap.size)
    (h : ∀ v' w', w'.ownsRow base e 1 v' (n + m) ((xs ++ zs).map (Value.int k)) → Below base w0 w' → base ≤ w'.heap.size → wpList P ops Q rest (a.put o.dst v') w') :
    wpList P ops Q (o :: rest) a w := by
  cases ao with
  | some ad => exact app_row R w hgd s x ho base v n xs hs hown zs ad m c hx hl (hnews ad rfl) hn hB w0 hb hbase h
  | none =>
    obtain ⟨rfl, rfl⟩ := hnone rfl
    obtain rfl := List.eq_nil_of_length_eq_zero hl
    obtain ⟨i0, hi, _⟩ := info_parts R.info
    exact wpList_append_own_none hgd s x t ho base e i0 1 R.ht hi v n _ hs hown hx (h v w (by simpa using hown) hb hbase)

theorem madeCells_ints (n : Nat) : (madeCells (Value.cells (.int k 0)) (n * 1)).toList = (List.replicate n (0 : Int)).map (Value.int k) := by
  apply List.ext_getElem
  · simp [madeCells]
  · intro i h1 h2
    simp [madeCells, Value.cells, Nat.mod_one]

/-- 'make([]T, n)': n zeros. -/
theorem make_row (R : Row1 P t e k B) (w : World) (hgd : o.guard = none) (l c : Operand) (ho : o.op = Op.makeSlice t l c) (base : Nat)
    (kl kc : IntKind) (L C : Int) (n : Nat) (hl : a.eval l = .int kl L) (hc : a.eval c = .int kc C) (hL : L = (n : Int)) (hC : C = (n : Int)) (hn : n ≤ 1000000000) (hB : B ≤ 16) (w0 : World) (hb : Below base w0 w) (hbase : base ≤ w.heap.size)
    (h : ∀ w', w'.ownsRow base e 1 (.slice (some ⟨w.heap.size, 0, none⟩) n n) n ((List.replicate n (0 : Int)).map (Value.int k)) → Below base w0 w' → base ≤ w'.heap.size → w.heap.size < w'.heap.size → wpList P ops Q rest (a.put o.dst (.slice (some ⟨w.heap.size, 0, none⟩) n n)) w') :
    wpList P ops Q (o :: rest) a w := by
  obtain ⟨i0, hi, hz0, hz1, hz2⟩ := info_parts R.info
  refine wpList_make_full w hgd l c t ho base e i0 (.int k 0) 1 R.ht hi hz0 hz1 kl kc L C n hl hc hL hC (by rw [hz2]; exact Nat.le_trans (Nat.mul_le_mul hB hn) (by decide)) (by unfold maxLen; omega) hbase ?_
  intro w' h1 h2
  rw [madeCells_ints] at h1
  exact h w' h1 (hb.grown h2 hbase (fun k hk => by cases hk)) (by have := h2.size; omega) (h1.lt w.heap.size rfl).2

/-- 'make([]T, 0, n)'. -/
theorem make_room (R : Row1 P t e k B) (w : World) (hgd : o.guard = none) (l c : Operand) (ho : o.op = Op.makeSlice t l c) (base : Nat)
    (kl kc : IntKind) (C : Int) (n : Nat) (hl : a.eval l = .int kl 0) (hc : a.eval c = .int kc C) (hC : C = (n : Int)) (hn : n ≤ 1000000000) (hB : B ≤ 16) (w0 : World) (hb : Below base w0 w) (hbase : base ≤ w.heap.size)
    (h : ∀ w', w'.ownsRow base e 1 (.slice (some ⟨w.heap.size, 0, none⟩) 0 n) 0 (([] : List Int).map (Value.int k)) → Below base w0 w' → base ≤ w'.heap.size → w.heap.size < w'.heap.size → wpList P ops Q rest (a.put o.dst (.slice (some ⟨w.heap.size, 0, none⟩) 0 n)) w') :
    wpList P ops Q (o :: rest) a w := by
  obtain ⟨i0, hi, hz0, hz1, hz2⟩ := info_parts R.info
  refine wpList_make_own w hgd l c t ho base e i0 (.int k 0) 1 R.ht hi hz0 hz1 kl kc C n hl hc hC (by rw [hz2]; exact Nat.le_trans (Nat.mul_le_mul hB hn) (by decide)) (by unfold maxLen; omega) hbase ?_
  intro w' h1 h2
  exact h w' h1 (hb.grown h2 hbase (fun k hk => by cases hk)) (by have := h2.size; omega) (h1.lt w.heap.size rfl).2

theorem splice_ints (xs zs : List Int) : splice (xs.map (Value.int k)) 0 (zs.map (Value.int k)) = (zs ++ xs.drop zs.length).map (Value.int k) := by
  simp [splice]

/-- 'copy(dst, src)', dst a whole row of the call's own, src whatever: the first 'zs.length' numbers are the source's. -/
theorem copy_row (R : Row1 P t e k B) (w : World) (hgd : o.guard = none) (d s : Operand)
    (ho : o.op = .call { callee := .builtin .copy, args := #[d, s], argTypes := #[t, t] }) (base g n : Nat) (xs : List Int)
    (hd : a.eval d = .slice (some ⟨g, 0, none⟩) n n) (hown : w.ownsRow base e 1 (.slice (some ⟨g, 0, none⟩) n n) n (xs.map (Value.int k)))
    (sp : Option Addr) (sLen sCap : Nat) (hs : a.eval s = .slice sp sLen sCap) (zs : List Int) (hz : zs.length = Nat.min sLen n) (hnone : sp = none → sLen = 0)
    (hsrc : ∀ ad, sp = some ad → ∀ j v, (zs.map (Value.int k))[j]? = some v → w.cell? (ad.add j) = some v) (w0 : World) (hb : Below base w0 w)
    (h : ∀ w', w'.ownsRow base e 1 (.slice (some ⟨g, 0, none⟩) n n) n ((zs ++ xs.drop zs.length).map (Value.int k)) → Below base w0 w' → Below base w w' → wpList P ops Q rest (a.put o.dst (goInt zs.length)) w') :
    wpList P ops Q (o :: rest) a w := by
  have hlen := own_len hown
  have hmin : zs.length ≤ n := by rw [hz]; exact Nat.min_le_right _ _
  obtain ⟨hx1, hx2⟩ := hown
  rcases hx2 with ⟨hv, _⟩ | ⟨g', cap, cur, hv, hbg, hg, hnc, hcm, hcs, htk⟩
  · cases hv
  · cases hv
    have hcur : cur.toList = xs.map (Value.int k) := by
      rw [← htk, List.take_of_length_le]
      simp [hcs]
    have hcur' : cur = (xs.map (Value.int k)).toArray := by rw [← hcur]
    subst hcur'
    refine wpList_copy_splice hgd d s t t ho e R.ht R.one _ sp n n sLen sCap hd hs g 0 (xs.map (Value.int k)) e hg (zs.map (Value.int k)) (by simpa using hz) ?_ (by simp; omega) (ints_oneCell _ _) base w (Below.refl _ _) hbg ?_
    · intro hp
      refine ⟨rfl, ?_⟩
      cases sp with
      | none => have := hnone rfl; subst this; simp at hz; simp [hz] at hp
      | some ad => exact ⟨ad, rfl, hsrc ad rfl⟩
    · intro w' hw' hb'
      have hw2 := hw'.out
      rw [splice_ints xs zs] at hw2
      have hfull : (zs ++ xs.drop zs.length).length = n := by simp; omega
      have := h w' ⟨by simpa using hfull, .inr ⟨g, n, _, rfl, hbg, hw2, Nat.le_refl _, hcm, by simpa using hfull, by
        simp only [Nat.mul_one]
        rw [List.take_of_length_le]
        simp; omega⟩⟩ (hb.trans hb') hb'
      simpa using this
end
/-- A guard without a word of its own: it fits where a copy stands. -/
theorem at_copy {P : Program} {ops : Array Oper} {rest : List Oper} {a : Act} {Q : Exit → Act → World → Prop} {w : World} {dst : Option Tmp} {args : Array Operand} {tys : Array TypeId} {ty : TypeId} {pos : String} {after : Array Edge} {guard : Option (Nat × Bool)}
    (h : wpList P ops Q (⟨dst, .call { callee := .builtin .copy, args := args, argTypes := tys }, ty, pos, after, guard⟩ :: rest) a w) :
    wpList P ops Q (⟨dst, .call { callee := .builtin .copy, args := args, argTypes := tys }, ty, pos, after, guard⟩ :: rest) a w := h
end Go.Proofs.Ybulkckdq
