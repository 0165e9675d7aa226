/-
  WHAT HOLDS AT THE HEAD OF EACH ROUND OF 'zzs4301bbuild', AND WHAT EACH WAY OF A ROUND DOES TO IT (no walk here).
-/
import Derived.Test.YbulkckayFind
namespace Go.Proofs.Ybulkckay
open Go.RowKit

/-- The list of the nodes' pointers. -/
def ptrs (blk : Nat → Nat) (m : Nat) : List Value := (List.range m).map fun i => .pointer (some ⟨blk i, 0, none⟩)

theorem ptrs_get (blk : Nat → Nat) (m i : Nat) (h : i < m) : (ptrs blk m)[i]? = some (.pointer (some ⟨blk i, 0, none⟩)) := by simp [ptrs, h]
theorem ptrs_snoc (blk : Nat → Nat) (m H : Nat) : ptrs (upd blk m H) (m + 1) = ptrs blk m ++ [.pointer (some ⟨H, 0, none⟩)] := by
  simp only [ptrs, List.range_succ, List.map_append, List.map_cons, List.map_nil, upd_same]
  congr 1
  apply List.map_congr_left
  intro i hi
  rw [upd_other _ _ _ _ (by have := List.mem_range.1 hi; omega)]

theorem ptr_upd {blk : Nat → Nat} {m H : Nat} {x : Option Nat} (h : ∀ c, x = some c → c < m) : ptr (upd blk m H) x = ptr blk x := by
  cases x with
  | none => rfl
  | some c => rw [ptr_some, ptr_some, upd_other _ _ _ _ (by have := h c rfl; omega)]

/-- What holds at the head of each round. -/
structure Inv (w0 w : World) (v : Value) (m : Nat) (key : Nat → Int) (blk : Nat → Nat) (L R : Nat → Option Nat) (best : Value) : Prop where
  own : w.ownsRow w0.heap.size 27 1 v m (ptrs blk m)
  root : w.heap[w0.heap.size]? = some (.cells #[ptr blk (rootOf m), best] 36 (0, 0))
  tr : Tr w w0.heap.size m key blk L R
  sh : Shape m key L R
  bel : Below w0.heap.size w0 w

theorem own_slice {w : World} {base n : Nat} {e : TypeId} {v : Value} {xs : List Value} (h : w.ownsRow base e 1 v n xs) :
    ∃ ao cap, v = .slice ao n cap ∧ ∀ j u, xs[j]? = some u → ∃ g, ao = some ⟨g, 0, none⟩ ∧ g < w.heap.size ∧ w.cell? ⟨g, j, none⟩ = some u := by
  have h1 := h.1
  have hc := fun g hg => h.cells (g := g) hg
  have hl := h.lt
  rcases h.2 with ⟨rfl, rfl⟩ | ⟨g, cap, cur, rfl, _⟩
  · refine ⟨none, 0, rfl, fun j u hu => ?_⟩
    have : xs = [] := List.eq_nil_of_length_eq_zero (by simpa using h1)
    subst this
    simp at hu
  · refine ⟨some ⟨g, 0, none⟩, cap, rfl, fun j u hu => ⟨g, rfl, (hl g rfl).2, ?_⟩⟩
    have := hc g rfl j u hu
    rwa [Addr.add_lit, Nat.zero_add] at this

/-- A new level's block. -/
def newNode (z : Int) : Obj := .cells #[.int .i64 z, .int .u8 2, .int .i64 z, .int .u64 0, .int .u64 0, .int .i64 0, .pointer none, .pointer none, .pointer none, .pointer none, .int .i64 1] 34

/-- The world behind 'n.left = l; nodes = append(nodes, l)', ahead of the append itself. -/
def grow (wr : World) (b off : Nat) (z : Int) : World :=
  ((wr.setCell ⟨b, off, none⟩ (.pointer (some ⟨wr.heap.size, 0, none⟩))).alloc (newNode z)).alloc (.cells #[.pointer (some ⟨wr.heap.size, 0, none⟩)] 27)

theorem setCell_at {w : World} {b off : Nat} {cs : Array Value} {t : TypeId} (h : w.heap[b]? = some (.cells cs t (0, 0))) (u : Value) : (w.setCell ⟨b, off, none⟩ u).heap[b]? = some (.cells (cs.setIfInBounds off u) t (0, 0)) := by
  have hlt := lt_of_block h
  have h' : w.heap[b] = .cells cs t (0, 0) := by simpa [Array.getElem?_eq_getElem hlt] using h
  show (w.heap.modify b _)[b]? = _
  rw [Array.getElem?_eq_getElem (by simpa using hlt), Array.getElem_modify_self, h']
  rfl

theorem size_setCell (w : World) (a : Addr) (u : Value) : (w.setCell a u).heap.size = w.heap.size := by simp [World.setCell]
theorem size_grow (wr : World) (b off : Nat) (z : Int) : (grow wr b off z).heap.size = wr.heap.size + 2 := by
  simp only [grow, World.size_alloc, size_setCell]

theorem grow_old (wr : World) (b off : Nat) (z : Int) (k : Nat) (hk : k < wr.heap.size) : (grow wr b off z).heap[k]? = (wr.setCell ⟨b, off, none⟩ (.pointer (some ⟨wr.heap.size, 0, none⟩))).heap[k]? := by
  unfold grow
  rw [Below.heap_alloc _ _ _ (by rw [World.size_alloc, size_setCell]; omega), Below.heap_alloc _ _ _ (by rw [size_setCell]; omega)]
theorem grow_new (wr : World) (b off : Nat) (z : Int) : (grow wr b off z).heap[wr.heap.size]? = some (newNode z) := by
  unfold grow
  rw [Below.heap_alloc _ _ _ (by rw [World.size_alloc, size_setCell]; omega)]
  have := heap_alloc_new (wr.setCell ⟨b, off, none⟩ (.pointer (some ⟨wr.heap.size, 0, none⟩))) (newNode z)
  rwa [size_setCell] at this

section
variable {w0 wr w' : World} {base m : Nat} {v : Value} {xs : List Value} {b off : Nat} {cs : Array Value} {t : TypeId} {z : Int}

/-- Another block than the row's. -/
theorem not_row (hown : wr.ownsRow base 27 1 v m xs) {k : Nat} {c : Array Value} {t : TypeId} {fz : Nat × Nat} (h : wr.heap[k]? = some (.cells c t fz)) (ht : t ≠ 27) : some k ≠ v.ownBlock := by
  intro e
  rcases hown.2 with ⟨rfl, _⟩ | ⟨g, cap, cur, rfl, _, hg, _⟩
  · cases e
  · simp [Value.ownBlock] at e
    subst e
    rw [hg] at h
    cases h
    exact ht rfl

theorem own_grow (hown : wr.ownsRow base 27 1 v m xs) (hb : wr.heap[b]? = some (.cells cs t (0, 0))) (ht : t ≠ 27) : (grow wr b off z).ownsRow base 27 1 v m xs := by
  unfold grow
  exact ((ownsRow_setCell_other hown (fun e => not_row hown hb ht e.symm) _).alloc _).alloc _

theorem step_other (hown : wr.ownsRow base 27 1 v m xs) (hg : (grow wr b off z).grownBy w' v.ownBlock) {k : Nat} {c : Array Value} {t' : TypeId} {fz : Nat × Nat} (hk : wr.heap[k]? = some (.cells c t' fz)) (ht : t' ≠ 27) (hne : k ≠ b) :
    w'.heap[k]? = some (.cells c t' fz) := by
  have hlt := lt_of_block hk
  rw [hg.block k (by rw [size_grow]; omega) (not_row hown hk ht), grow_old _ _ _ _ _ hlt, Below.heap_setCell _ _ _ _ hne, hk]
theorem step_at (hown : wr.ownsRow base 27 1 v m xs) (hg : (grow wr b off z).grownBy w' v.ownBlock) (hb : wr.heap[b]? = some (.cells cs t (0, 0))) (ht : t ≠ 27) :
    w'.heap[b]? = some (.cells (cs.setIfInBounds off (.pointer (some ⟨wr.heap.size, 0, none⟩))) t (0, 0)) := by
  have hlt := lt_of_block hb
  rw [hg.block b (by rw [size_grow]; omega) (not_row hown hb ht), grow_old _ _ _ _ _ hlt]
  exact setCell_at hb _
theorem step_new (hown : wr.ownsRow base 27 1 v m xs) (hg : (grow wr b off z).grownBy w' v.ownBlock) : w'.heap[wr.heap.size]? = some (newNode z) := by
  have hne : some wr.heap.size ≠ v.ownBlock := by
    intro e
    have := (hown.lt _ e.symm).2
    omega
  rw [hg.block _ (by rw [size_grow]; omega) hne]
  exact grow_new _ _ _ _
theorem step_below (hown : wr.ownsRow base 27 1 v m xs) (hg : (grow wr b off z).grownBy w' v.ownBlock) (hbl : Below base w0 wr) (hb : base ≤ b) (hB : base ≤ wr.heap.size) : Below base w0 w' := by
  refine Below.grown (w := grow wr b off z) ?_ hg (by rw [size_grow]; omega) (fun k hk => (hown.lt k hk).1)
  unfold grow
  exact ((hbl.setCell hb _).alloc (by rw [size_setCell]; omega) _).alloc (by rw [World.size_alloc, size_setCell]; omega) _
end

section
variable {w0 wr w' : World} {v v' : Value} {m : Nat} {key : Nat → Int} {blk : Nat → Nat} {L R : Nat → Option Nat} {best : Value} {z : Int}

theorem Inv.alloc (h : Inv w0 wr v m key blk L R best) (o : Obj) : Inv w0 (wr.alloc o) v m key blk L R best := by
  have hb := h.bel.size
  have hold : ∀ k o', wr.heap[k]? = some o' → (wr.alloc o).heap[k]? = some o' := fun k o' hk => by rw [Below.heap_alloc _ _ _ (lt_of_block hk)]; exact hk
  exact ⟨h.own.alloc _, hold _ _ h.root, ⟨fun i hi => hold _ _ (h.tr.node i hi), h.tr.mono, h.tr.low⟩, h.sh, h.bel.alloc hb _⟩

theorem inv_first (h : Inv w0 wr v 0 key blk L R best) (hg : (grow wr w0.heap.size 0 z).grownBy w' v.ownBlock) (ho : w'.ownsRow w0.heap.size 27 1 v' (0 + 1) (ptrs blk 0 ++ [.pointer (some ⟨wr.heap.size, 0, none⟩)])) :
    Inv w0 w' v' 1 (upd key 0 z) (upd blk 0 wr.heap.size) (upd L 0 none) (upd R 0 none) best := by
  have hS := h.root
  have hSl := lt_of_block hS
  refine ⟨?_, ?_, ⟨?_, ?_, ?_⟩, ins_first _ _ _ _, step_below h.own hg h.bel (Nat.le_refl _) h.bel.size⟩
  · rw [← ptrs_snoc] at ho; simpa using ho
  · rw [step_at h.own hg hS (by decide)]
    simp [rootOf, ptr, upd]
  · intro i hi
    obtain rfl : i = 0 := by omega
    rw [upd_same, upd_same, upd_same, upd_same, step_new h.own hg]
    rfl
  · intro i j h1 h2; omega
  · intro i hi
    obtain rfl : i = 0 := by omega
    rw [upd_same]; exact hSl

theorem inv_left (h : Inv w0 wr v m key blk L R best) {i j : Nat} (hi : i < m) (hr : Reach key L R z j i (some 0)) (hj : j ≤ i) (hk : z < key i) (hL : L i = none)
    (hg : (grow wr (blk i) 8 z).grownBy w' v.ownBlock) (ho : w'.ownsRow w0.heap.size 27 1 v' (m + 1) (ptrs blk m ++ [.pointer (some ⟨wr.heap.size, 0, none⟩)])) :
    Inv w0 w' v' (m + 1) (upd key m z) (upd blk m wr.heap.size) (upd (upd L m none) i (some m)) (upd R m none) best := by
  have hS := h.root
  have hSl := lt_of_block hS
  have hlow := h.tr.low i hi
  have blkinj : ∀ t, t < m → t ≠ i → blk t ≠ blk i := by
    intro t ht hne e
    rcases Nat.lt_or_gt_of_ne hne with h1 | h1
    · have := h.tr.mono t i h1 hi; omega
    · have := h.tr.mono i t h1 ht; omega
  have hm0 : 0 < m := by omega
  refine ⟨?_, ?_, ⟨?_, ?_, ?_⟩, ins_left h.sh hi hr hj hk hL, step_below h.own hg h.bel (by omega) h.bel.size⟩
  · rw [← ptrs_snoc] at ho; exact ho
  · rw [step_other h.own hg hS (by decide) (by omega), rootOf_succ, rootOf_pos hm0, ptr_upd (fun c hc => by cases hc; omega)]
  · intro t ht
    by_cases htm : t = m
    · subst htm
      rw [upd_same, upd_same, upd_same, upd_other _ _ _ _ (by omega : t ≠ i), upd_same, step_new h.own hg]
      rfl
    · have ht' : t < m := by omega
      rw [upd_other key _ _ _ htm, upd_other blk _ _ _ htm, upd_other R _ _ _ htm, ptr_upd (fun c hc => (h.sh.lr t ht' c (.inr hc)).2)]
      by_cases hti : t = i
      · subst hti
        rw [upd_same, step_at h.own hg (h.tr.node t ht') (by decide), hL, ptr_some, upd_same]
        rfl
      · rw [upd_other _ _ _ _ hti, upd_other L _ _ _ htm, ptr_upd (fun c hc => (h.sh.lr t ht' c (.inl hc)).2)]
        exact step_other h.own hg (h.tr.node t ht') (by decide) (blkinj t ht' hti)
  · intro s t h1 h2
    rw [upd_other blk _ _ s (by omega)]
    by_cases htm : t = m
    · subst htm; rw [upd_same]; exact h.tr.lt (by omega)
    · rw [upd_other _ _ _ _ htm]; exact h.tr.mono s t h1 (by omega)
  · intro t ht
    by_cases htm : t = m
    · subst htm; rw [upd_same]; exact hSl
    · rw [upd_other _ _ _ _ htm]; exact h.tr.low t (by omega)

theorem inv_right (h : Inv w0 wr v m key blk L R best) {i j : Nat} (hi : i < m) (hr : Reach key L R z j i (some 0)) (hj : j ≤ i) (hne : key i ≠ z) (hk : ¬ z < key i) (hR : R i = none)
    (hg : (grow wr (blk i) 9 z).grownBy w' v.ownBlock) (ho : w'.ownsRow w0.heap.size 27 1 v' (m + 1) (ptrs blk m ++ [.pointer (some ⟨wr.heap.size, 0, none⟩)])) :
    Inv w0 w' v' (m + 1) (upd key m z) (upd blk m wr.heap.size) (upd L m none) (upd (upd R m none) i (some m)) best := by
  have hS := h.root
  have hSl := lt_of_block hS
  have hlow := h.tr.low i hi
  have blkinj : ∀ t, t < m → t ≠ i → blk t ≠ blk i := by
    intro t ht hne e
    rcases Nat.lt_or_gt_of_ne hne with h1 | h1
    · have := h.tr.mono t i h1 hi; omega
    · have := h.tr.mono i t h1 ht; omega
  have hm0 : 0 < m := by omega
  refine ⟨?_, ?_, ⟨?_, ?_, ?_⟩, ins_right h.sh hi hr hj hne hk hR, step_below h.own hg h.bel (by omega) h.bel.size⟩
  · rw [← ptrs_snoc] at ho; exact ho
  · rw [step_other h.own hg hS (by decide) (by omega), rootOf_succ, rootOf_pos hm0, ptr_upd (fun c hc => by cases hc; omega)]
  · intro t ht
    by_cases htm : t = m
    · subst htm
      rw [upd_same, upd_same, upd_same, upd_other _ _ _ _ (by omega : t ≠ i), upd_same, step_new h.own hg]
      rfl
    · have ht' : t < m := by omega
      rw [upd_other key _ _ _ htm, upd_other blk _ _ _ htm, upd_other L _ _ _ htm, ptr_upd (x := L t) (fun c hc => (h.sh.lr t ht' c (.inl hc)).2)]
      by_cases hti : t = i
      · subst hti
        rw [upd_same, step_at h.own hg (h.tr.node t ht') (by decide), hR, ptr_some, upd_same]
        rfl
      · rw [upd_other _ _ _ _ hti, upd_other R _ _ _ htm, ptr_upd (fun c hc => (h.sh.lr t ht' c (.inr hc)).2)]
        exact step_other h.own hg (h.tr.node t ht') (by decide) (blkinj t ht' hti)
  · intro s t h1 h2
    rw [upd_other blk _ _ s (by omega)]
    by_cases htm : t = m
    · subst htm; rw [upd_same]; exact h.tr.lt (by omega)
    · rw [upd_other _ _ _ _ htm]; exact h.tr.mono s t h1 (by omega)
  · intro t ht
    by_cases htm : t = m
    · subst htm; rw [upd_same]; exact hSl
    · rw [upd_other _ _ _ _ htm]; exact h.tr.low t (by omega)

/-- 's.best = l'. -/
theorem inv_best (h : Inv w0 wr v m key blk L R best) (u : Value) : Inv w0 (wr.setCell ⟨w0.heap.size, 1, none⟩ u) v m key blk L R u := by
  have hS := h.root
  refine ⟨ownsRow_setCell_other h.own (fun e => not_row h.own hS (by decide) e.symm) _, ?_, ⟨fun i hi => ?_, h.tr.mono, h.tr.low⟩, h.sh, h.bel.setCell (Nat.le_refl _) _⟩
  · rw [setCell_at hS]; rfl
  · rw [Below.heap_setCell _ _ _ _ (by have := h.tr.low i hi; simp; omega)]; exact h.tr.node i hi

theorem inv_drewN (h : Inv w0 wr v m key blk L R best) (n : Nat) : Inv w0 (wr.drewN n) v m key blk L R best :=
  ⟨h.own, h.root, ⟨h.tr.node, h.tr.mono, h.tr.low⟩, h.sh, below_drewN h.bel n⟩

theorem inv_start (w : World) : Inv w (w.alloc (.cells #[.pointer none, .pointer none] 36)) (.slice none 0 0) 0 (fun _ => 0) (fun _ => 0) (fun _ => none) (fun _ => none) (.pointer none) := by
  refine ⟨World.ownsRow_nil _ _ _ _, heap_alloc_new w _, ⟨fun i hi => by omega, fun i j _ h => by omega, fun i hi => by omega⟩, ⟨fun i hi => by omega, fun i hi => by omega⟩, (Below.refl _ _).alloc (Nat.le_refl _) _⟩
end
end Go.Proofs.Ybulkckay
