/-
  THE PLAIN LAW OF A SEARCH TREE THAT GROWS: nodes by their numbers (0, 1, .. in the order in which they were made), a key and two children each. No Go in sight.
-/
import Derived.Test.YbulkckayRows
namespace Go.Proofs.Ybulkckay

/-- The search for p from x on, with fuel. -/
def go (key : Nat → Int) (L R : Nat → Option Nat) (p : Int) : Nat → Option Nat → Option Nat
  | _, none => none
  | 0, some _ => none
  | f + 1, some i => if key i = p then some i else if p < key i then go key L R p f (L i) else go key L R p f (R i)

def rootOf (m : Nat) : Option Nat := if m = 0 then none else some 0
def upd {α : Type} (f : Nat → α) (i : Nat) (v : α) : Nat → α := fun t => if t = i then v else f t

theorem upd_same {α : Type} (f : Nat → α) (i : Nat) (v : α) : upd f i v i = v := by simp [upd]
theorem upd_other {α : Type} (f : Nat → α) (i : Nat) (v : α) (t : Nat) (h : t ≠ i) : upd f i v t = f t := by simp [upd, h]

/-- Children were made behind their parents. -/
def Lr (m : Nat) (L R : Nat → Option Nat) : Prop := ∀ i, i < m → ∀ c, (L i = some c ∨ R i = some c) → i < c ∧ c < m

theorem go_key {key : Nat → Int} {L R : Nat → Option Nat} {p : Int} : ∀ {f : Nat} {x : Option Nat} {r : Nat}, go key L R p f x = some r → key r = p
  | _, none, r, h => by simp [go] at h
  | 0, some _, r, h => by simp [go] at h
  | f + 1, some i, r, h => by
    unfold go at h
    split at h
    · cases h; assumption
    · split at h
      · exact go_key h
      · exact go_key h

theorem go_lt {m : Nat} {key : Nat → Int} {L R : Nat → Option Nat} {p : Int} (hlr : Lr m L R) : ∀ {f : Nat} {x : Option Nat} {r : Nat}, (∀ i, x = some i → i < m) → go key L R p f x = some r → r < m
  | _, none, r, _, h => by simp [go] at h
  | 0, some _, r, _, h => by simp [go] at h
  | f + 1, some i, r, hx, h => by
    unfold go at h
    split at h
    · cases h; exact hx _ rfl
    · split at h
      · exact go_lt hlr (fun c hc => (hlr i (hx i rfl) c (.inl hc)).2) h
      · exact go_lt hlr (fun c hc => (hlr i (hx i rfl) c (.inr hc)).2) h

theorem go_more {key : Nat → Int} {L R : Nat → Option Nat} {p : Int} : ∀ {f : Nat} {x : Option Nat} {r : Nat}, go key L R p f x = some r → go key L R p (f + 1) x = some r
  | _, none, r, h => by simp [go] at h
  | 0, some _, r, h => by simp [go] at h
  | f + 1, some i, r, h => by
    unfold go at h ⊢
    split at h
    · rename_i e; rw [if_pos e]; exact h
    · rename_i e
      rw [if_neg e]
      split at h
      · rename_i e2; rw [if_pos e2]; exact go_more h
      · rename_i e2; rw [if_neg e2]; exact go_more h

theorem go_same {m : Nat} {key key' : Nat → Int} {L R L' R' : Nat → Option Nat} {p : Int} (hlr : Lr m L R) (hk : ∀ i, i < m → key' i = key i)
    (hL : ∀ i, i < m → ∀ c, L i = some c → L' i = some c) (hR : ∀ i, i < m → ∀ c, R i = some c → R' i = some c) :
    ∀ {f : Nat} {x : Option Nat} {r : Nat}, (∀ i, x = some i → i < m) → go key L R p f x = some r → go key' L' R' p f x = some r
  | _, none, r, _, h => by simp [go] at h
  | 0, some _, r, _, h => by simp [go] at h
  | f + 1, some i, r, hx, h => by
    have hi := hx i rfl
    unfold go at h ⊢
    rw [hk i hi]
    split at h
    · rename_i e; rw [if_pos e]; exact h
    · rename_i e
      rw [if_neg e]
      split at h
      · rename_i e2
        rw [if_pos e2]
        cases hc : L i with
        | none => rw [hc] at h; simp [go] at h
        | some c =>
          rw [hc] at h
          rw [hL i hi c hc]
          exact go_same hlr hk hL hR (fun c' hc' => by cases hc'; exact (hlr i hi c (.inl hc)).2) h
      · rename_i e2
        rw [if_neg e2]
        cases hc : R i with
        | none => rw [hc] at h; simp [go] at h
        | some c =>
          rw [hc] at h
          rw [hR i hi c hc]
          exact go_same hlr hk hL hR (fun c' hc' => by cases hc'; exact (hlr i hi c (.inr hc)).2) h

/-- The tree of m nodes: children behind parents; each node is found by its key. -/
structure Shape (m : Nat) (key : Nat → Int) (L R : Nat → Option Nat) : Prop where
  lr : Lr m L R
  fin : ∀ i, i < m → go key L R (key i) m (rootOf m) = some i

theorem rootOf_lt {m i : Nat} (h : rootOf m = some i) : i < m := by
  unfold rootOf at h; split at h
  · cases h
  · cases h; omega

/-- What the search answers. -/
theorem Shape.found {m : Nat} {key : Nat → Int} {L R : Nat → Option Nat} (h : Shape m key L R) {p : Int} {i : Nat} (hi : i < m) (hk : key i = p) : go key L R p m (rootOf m) = some i := by
  rw [← hk]; exact h.fin i hi
theorem Shape.missed {m : Nat} {key : Nat → Int} {L R : Nat → Option Nat} (h : Shape m key L R) {p : Int} (hn : ∀ i, i < m → key i ≠ p) : go key L R p m (rootOf m) = none := by
  cases hg : go key L R p m (rootOf m) with
  | none => rfl
  | some r => exact absurd (go_key hg) (hn r (go_lt h.lr (fun i hi => rootOf_lt hi) hg))
theorem Shape.inj {m : Nat} {key : Nat → Int} {L R : Nat → Option Nat} (h : Shape m key L R) {i j : Nat} (hi : i < m) (hj : j < m) (e : key i = key j) : i = j := by
  have h1 := h.fin i hi
  rw [e, h.fin j hj] at h1
  exact (Option.some.inj h1).symm

/-- The search for k has come, in j steps, to node i: in every tree that agrees ahead of i. -/
def Reach (key : Nat → Int) (L R : Nat → Option Nat) (k : Int) (j i : Nat) (x0 : Option Nat) : Prop :=
  ∀ (key' : Nat → Int) (L' R' : Nat → Option Nat), (∀ t, t < i → key' t = key t ∧ L' t = L t ∧ R' t = R t) → ∀ f, go key' L' R' k (j + f) x0 = go key' L' R' k f (some i)

theorem reach_start (key : Nat → Int) (L R : Nat → Option Nat) (k : Int) : Reach key L R k 0 0 (some 0) := by
  intro key' L' R' _ f; rw [Nat.zero_add]

theorem reach_left {key : Nat → Int} {L R : Nat → Option Nat} {k : Int} {j i c : Nat} {x0 : Option Nat} (h : Reach key L R k j i x0) (hic : i < c) (hL : L i = some c) (hk : k < key i) : Reach key L R k (j + 1) c x0 := by
  intro key' L' R' hag f
  have h1 := h key' L' R' (fun t ht => hag t (by omega)) (f + 1)
  rw [show j + 1 + f = j + (f + 1) by omega, h1]
  obtain ⟨e1, e2, _⟩ := hag i hic
  rw [go.eq_3, e1, e2, hL, if_neg (by omega), if_pos hk]

theorem reach_right {key : Nat → Int} {L R : Nat → Option Nat} {k : Int} {j i c : Nat} {x0 : Option Nat} (h : Reach key L R k j i x0) (hic : i < c) (hR : R i = some c) (hne : key i ≠ k) (hk : ¬ k < key i) : Reach key L R k (j + 1) c x0 := by
  intro key' L' R' hag f
  have h1 := h key' L' R' (fun t ht => hag t (by omega)) (f + 1)
  rw [show j + 1 + f = j + (f + 1) by omega, h1]
  obtain ⟨e1, _, e3⟩ := hag i hic
  rw [go.eq_3, e1, e3, hR, if_neg hne, if_neg hk]

theorem rootOf_succ (m : Nat) : rootOf (m + 1) = some 0 := by simp [rootOf]
theorem rootOf_pos {m : Nat} (h : 0 < m) : rootOf m = some 0 := by simp [rootOf]; omega

theorem ins_first (key : Nat → Int) (L R : Nat → Option Nat) (k : Int) : Shape 1 (upd key 0 k) (upd L 0 none) (upd R 0 none) := by
  refine ⟨fun i hi c hc => ?_, fun i hi => ?_⟩
  · obtain rfl : i = 0 := by omega
    simp [upd] at hc
  · obtain rfl : i = 0 := by omega
    simp [rootOf, go]

theorem ins_left {m : Nat} {key : Nat → Int} {L R : Nat → Option Nat} (h : Shape m key L R) {k : Int} {j i : Nat} (hi : i < m) (hr : Reach key L R k j i (some 0)) (hj : j ≤ i) (hk : k < key i) (hL : L i = none) :
    Shape (m + 1) (upd key m k) (upd (upd L m none) i (some m)) (upd R m none) := by
  have ki : ∀ t, t < m → upd key m k t = key t := fun t ht => upd_other _ _ _ _ (by omega)
  have Lo : ∀ t, t < m → t ≠ i → upd (upd L m none) i (some m) t = L t := fun t ht hne => by rw [upd_other _ _ _ _ hne, upd_other _ _ _ _ (by omega)]
  have Ro : ∀ t, t < m → upd R m none t = R t := fun t ht => upd_other _ _ _ _ (by omega)
  have Lm : upd (upd L m none) i (some m) m = none := by rw [upd_other _ _ _ _ (by omega), upd_same]
  refine ⟨fun t ht c hc => ?_, fun t ht => ?_⟩
  · by_cases htm : t = m
    · subst htm
      rw [Lm, upd_same] at hc
      simp at hc
    · rw [Ro t (by omega)] at hc
      by_cases hti : t = i
      · subst hti
        rw [upd_same] at hc
        rcases hc with hc | hc
        · cases hc; omega
        · have := h.lr t hi c (.inr hc); omega
      · rw [Lo t (by omega) hti] at hc
        have := h.lr t (by omega) c hc; omega
  · rw [rootOf_succ]
    by_cases htm : t = m
    · subst htm
      rw [upd_same]
      have h1 := hr (upd key t k) (upd (upd L t none) i (some t)) (upd R t none) (fun s hs => ⟨ki s (by omega), Lo s (by omega) (by omega), Ro s (by omega)⟩) (t - j + 1)
      rw [show t + 1 = j + (t - j + 1) by omega, h1]
      obtain ⟨f, hf⟩ : ∃ f, t - j = f + 1 := ⟨t - j - 1, by omega⟩
      rw [hf, go.eq_3, ki i hi, if_neg (by omega), if_pos hk, upd_same, go.eq_3, upd_same, if_pos rfl]
    · have h0 := h.fin t (by omega)
      rw [rootOf_pos (by omega)] at h0
      rw [ki t (by omega)]
      exact go_more (go_same h.lr ki (fun s hs c hc => by rw [Lo s hs (fun e => by rw [e, hL] at hc; cases hc)]; exact hc) (fun s hs c hc => by rw [Ro s hs]; exact hc) (fun s hs => by cases hs; omega) h0)

theorem ins_right {m : Nat} {key : Nat → Int} {L R : Nat → Option Nat} (h : Shape m key L R) {k : Int} {j i : Nat} (hi : i < m) (hr : Reach key L R k j i (some 0)) (hj : j ≤ i) (hne : key i ≠ k) (hk : ¬ k < key i) (hR : R i = none) :
    Shape (m + 1) (upd key m k) (upd L m none) (upd (upd R m none) i (some m)) := by
  have ki : ∀ t, t < m → upd key m k t = key t := fun t ht => upd_other _ _ _ _ (by omega)
  have Ro : ∀ t, t < m → t ≠ i → upd (upd R m none) i (some m) t = R t := fun t ht hne => by rw [upd_other _ _ _ _ hne, upd_other _ _ _ _ (by omega)]
  have Lo : ∀ t, t < m → upd L m none t = L t := fun t ht => upd_other _ _ _ _ (by omega)
  have Rm : upd (upd R m none) i (some m) m = none := by rw [upd_other _ _ _ _ (by omega), upd_same]
  refine ⟨fun t ht c hc => ?_, fun t ht => ?_⟩
  · by_cases htm : t = m
    · subst htm
      rw [Rm, upd_same] at hc
      simp at hc
    · rw [Lo t (by omega)] at hc
      by_cases hti : t = i
      · subst hti
        rw [upd_same] at hc
        rcases hc with hc | hc
        · have := h.lr t hi c (.inl hc); omega
        · cases hc; omega
      · rw [Ro t (by omega) hti] at hc
        have := h.lr t (by omega) c hc; omega
  · rw [rootOf_succ]
    by_cases htm : t = m
    · subst htm
      rw [upd_same]
      have h1 := hr (upd key t k) (upd L t none) (upd (upd R t none) i (some t)) (fun s hs => ⟨ki s (by omega), Lo s (by omega), Ro s (by omega) (by omega)⟩) (t - j + 1)
      rw [show t + 1 = j + (t - j + 1) by omega, h1]
      obtain ⟨f, hf⟩ : ∃ f, t - j = f + 1 := ⟨t - j - 1, by omega⟩
      rw [hf, go.eq_3, ki i hi, if_neg hne, if_neg hk, upd_same, go.eq_3, upd_same, if_pos rfl]
    · have h0 := h.fin t (by omega)
      rw [rootOf_pos (by omega)] at h0
      rw [ki t (by omega)]
      exact go_more (go_same h.lr ki (fun s hs c hc => by rw [Lo s hs]; exact hc) (fun s hs c hc => by rw [Ro s hs (fun e => by rw [e, hR] at hc; cases hc)]; exact hc) (fun s hs => by cases hs; omega) h0)
end Go.Proofs.Ybulkckay
