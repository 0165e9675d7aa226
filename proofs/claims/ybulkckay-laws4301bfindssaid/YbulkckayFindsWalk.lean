/-
  THE WALK OF 'LawS4301BFinds'.
-/
import Derived.Test.YbulkckayBuild
import Derived.LaidEqlPtr
import Derived.Lib.Builder
namespace Go.Proofs.Ybulkckay.lawS4301BFinds
open Go.RowKit

theorem Yba.has34 : ∃ j, Yba.prog.info? 34 = some j := Option.isSome_iff_exists.1 (by kernel_rfl)
theorem eql_same (p : Option Addr) (w : World) : (binOp .eql 27 (.pointer p) (.pointer p)).run Yba.prog w = .ok (.bool true) w := by
  cases p with
  | none => rw [run_eql_pointer_nil w 27 none (by kernel_rfl)]; rfl
  | some a => obtain ⟨j, hj⟩ := Yba.has34; exact run_eql_ptr_same w a Yba.underlying27 hj
theorem neq_same (p : Option Addr) (w : World) : (binOp .neq 27 (.pointer p) (.pointer p)).run Yba.prog w = .ok (.bool false) w := by
  cases p with
  | none => rw [run_neq_pointer_nil w 27 none (by kernel_rfl)]; rfl
  | some a => obtain ⟨j, hj⟩ := Yba.has34; exact Lib.run_neq_ptr_same w a Yba.underlying27 hj

theorem find_at {w0 w : World} {v : Value} {m : Nat} {key : Nat → Int} {blk : Nat → Nat} {L R : Nat → Option Nat} {best : Value} (HI : Hid (Inv w0 w v m key blk L R best)) (nq : Nat) (p : Int) (x : Option Addr) (HG : Hid (ptr blk (go key L R p m (rootOf m)) = .pointer x)) :
    Calls Yba.prog 5 #[.pointer (some ⟨w0.heap.size, 0, none⟩), .int .i64 p] (w.drewN nq) fun e w' => e = .returned (.pointer x) ∧ w' = w.drewN nq := by
  have h := inv_drewN HI.out nq
  refine (find_any p best h.tr h.sh h.root).mono ?_
  rintro e w' ⟨rfl, rfl⟩
  exact ⟨by rw [HG.out], rfl⟩

/-- What the loop over the nodes has found among the first q. -/
def Seen (m : Nat) (key : Nat → Int) (p : Int) (q : Nat) (X : Option Nat) : Prop := (X = none → ∀ t, t < q → key t ≠ p) ∧ ∀ i, X = some i → i < m ∧ key i = p

theorem seen_hit {m : Nat} {key : Nat → Int} {p : Int} {q : Nat} (hq : q < m) (h : key q = p) : Seen m key p (q + 1) (some q) := ⟨fun e => (by cases e), fun i e => by cases e; exact ⟨hq, h⟩⟩
theorem seen_miss {m : Nat} {key : Nat → Int} {p : Int} {q : Nat} {X : Option Nat} (hs : Seen m key p q X) (h : ¬ key q = p) : Seen m key p (q + 1) X :=
  ⟨fun e t ht => by by_cases e2 : t = q; subst e2; exact h; exact hs.1 e t (by omega), hs.2⟩
theorem seen_end {m : Nat} {key : Nat → Int} {L R : Nat → Option Nat} {p : Int} {X : Option Nat} (sh : Shape m key L R) (hs : Seen m key p m X) : go key L R p m (rootOf m) = X := by
  cases X with
  | none => exact sh.missed (hs.1 rfl)
  | some i => exact sh.found (hs.2 i rfl).1 (hs.2 i rfl).2

theorem long (a : Option Addr) (len cap : Nat) (probe pick : Int) (w : World) (h : 512 < len) (hm : len ≤ maxLen) :
    Calls Yba.prog 3 #[.slice a len cap, .int .i64 probe, .int .u8 pick] w fun e w' => e = .returned (.bool true) ∧ Below w.heap.size w w' := by
  unfold maxLen at hm
  go_enter Yba.func3, Yba.ntmps3
  go_wp2
  go_ret
  exact ⟨rfl, Below.refl _ _⟩

set_option maxRecDepth 100000 in
set_option maxHeartbeats 1600000 in
theorem odd (a : Option Addr) (len cap : Nat) (zs : List Int) (probe pick : Int) (w : World) (hl : len ≤ 512) (hp0 : 0 ≤ pick) (hp1 : pick ≤ 255) (hodd : ¬ pick % 2 = 0)
    (hcell : ∀ W, Below w.heap.size w W → ∀ t, t < len → ∃ x, a = some x ∧ W.cell? (x.add t) = some (.int .i64 (zs.getD t 0))) :
    Calls Yba.prog 3 #[.slice a len cap, .int .i64 probe, .int .u8 pick] w fun e w' => e = .returned (.bool true) ∧ Below w.heap.size w w' := by
  have HC : Hid (∀ W, Below w.heap.size w W → ∀ t, t < len → ∃ x, a = some x ∧ W.cell? (x.add t) = some (.int .i64 (zs.getD t 0))) := hcell
  clear hcell
  go_enter Yba.func3, Yba.ntmps3
  go_wp2_with fail
  refine (build_any a len cap zs w hl HC.out).mono ?_
  rintro e w1 ⟨v, m, key, blk, L, R, bo, rfl, hinv, hhas, hml⟩
  have HI := show Hid _ from hinv
  have HH := show Hid _ from hhas
  clear hinv hhas
  obtain ⟨p, hp⟩ : ∃ p, p = probe := ⟨_, rfl⟩
  rw [← hp]
  clear hp
  obtain ⟨ao, cp, hv, _⟩ := own_slice HI.out.own
  have HI2 : Hid (Inv w w1 (.slice ao m cp) m key blk L R (.pointer bo)) := by rw [← hv]; exact HI
  rw [hv]
  clear hv HI
  go_wp2_with fail
  go_loop [11, 44] (fun want i => ∃ (q : Nat) (X : Option Nat), q ≤ m ∧ i = .int .i64 q ∧ want = ptr blk X ∧ Seen m key p q X) (fun _ i => m - (intOf i).toNat)
  case atStart => exact ⟨0, none, Nat.zero_le _, rfl, rfl, fun _ t ht => by omega, fun i e => by cases e⟩
  case round =>
    obtain ⟨q, X, hq, rfl, rfl, hseen⟩ := hrel
    have HS := show Hid _ from hseen
    clear hseen
    by_cases hqm : q < m
    · obtain ⟨g, rfl, hg⟩ := own_cells HI2.out.own (ptrs_get blk m q hqm)
      obtain ⟨c0, _⟩ := HI2.out.tr.cells hqm
      have hi2 : (q : Int) < (m : Int) := by omega
      by_cases hkk : key q = p
      · have HKK := show Hid _ from hkk
        have hk1 : (key q == p) = true := by simpa using hkk
        clear hkk
        go_wp2
        go_round
        case rel => exact ⟨q + 1, some q, by omega, by go_num, rfl, seen_hit hqm HKK.out⟩
        case measure => simp [intOf]; omega
      · go_wp2
        go_round
        case rel => exact ⟨q + 1, X, by omega, by go_num, rfl, seen_miss HS.out hkk⟩
        case measure => simp [intOf]; omega
    · obtain rfl : q = m := by omega
      have HG := show Hid _ from seen_end HI2.out.sh HS.out
      have hr := HI2.out.root
      have hlt0 := lt_of_block hr
      obtain ⟨ro, hro⟩ : ∃ ro, ptr blk (rootOf q) = .pointer ro := by cases rootOf q <;> exact ⟨_, rfl⟩
      rw [hro] at hr
      have hr0 : w1.cell? ⟨w.heap.size, 0, none⟩ = some (.pointer ro) := by simp [World.cell?, hr]
      have hr1 : w1.cell? ⟨w.heap.size, 1, none⟩ = some (.pointer bo) := by simp [World.cell?, hr]
      clear hr hro
      have heq := eql_same
      have hne := neq_same
      cases X with
      | none =>
        have HG2 : Hid (ptr blk (go key L R p q (rootOf q)) = .pointer none) := by rw [HG.out]; rfl
        clear HG HS
        rw [ptr_none]
        go_wp2
        go_quiet (fail)
        go_wp2_with (go_at_call 5; refine (find_at HI2 _ p _ HG2).mono ?_; rintro e w5 ⟨rfl, rfl⟩)
        go_ret
        exact ⟨rfl, below_drewN HI2.out.bel _⟩
      | some i =>
        obtain ⟨hi, hki⟩ := HS.out.2 i rfl
        obtain ⟨c0, _⟩ := HI2.out.tr.cells hi
        rw [hki] at c0
        have HG2 : Hid (ptr blk (go key L R p q (rootOf q)) = .pointer (some ⟨blk i, 0, none⟩)) := by rw [HG.out]; rfl
        clear hki HG HS
        rw [ptr_some]
        go_wp2
        go_quiet (fail)
        go_wp2_with (go_at_call 5; refine (find_at HI2 _ p _ HG2).mono ?_; rintro e w5 ⟨rfl, rfl⟩)
        go_ret
        exact ⟨rfl, below_drewN HI2.out.bel _⟩

set_option maxRecDepth 100000 in
set_option maxHeartbeats 1600000 in
theorem empty (a : Option Addr) (len cap : Nat) (zs : List Int) (probe pick : Int) (w : World) (hl : len ≤ 512) (hp0 : 0 ≤ pick) (hp1 : pick ≤ 255) (heven : pick % 2 = 0) (h0 : len ≤ 0)
    (hcell : ∀ W, Below w.heap.size w W → ∀ t, t < len → ∃ x, a = some x ∧ W.cell? (x.add t) = some (.int .i64 (zs.getD t 0))) :
    Calls Yba.prog 3 #[.slice a len cap, .int .i64 probe, .int .u8 pick] w fun e w' => e = .returned (.bool true) ∧ Below w.heap.size w w' := by
  have HC : Hid (∀ W, Below w.heap.size w W → ∀ t, t < len → ∃ x, a = some x ∧ W.cell? (x.add t) = some (.int .i64 (zs.getD t 0))) := hcell
  clear hcell
  go_enter Yba.func3, Yba.ntmps3
  go_wp2_with fail
  refine (build_any a len cap zs w hl HC.out).mono ?_
  rintro e w1 ⟨v, m, key, blk, L, R, bo, rfl, hinv, hhas, hml⟩
  have HI := show Hid _ from hinv
  have HH := show Hid _ from hhas
  clear hinv hhas
  obtain ⟨p, hp⟩ : ∃ p, p = probe := ⟨_, rfl⟩
  rw [← hp]
  clear hp
  obtain ⟨ao, cp, hv, _⟩ := own_slice HI.out.own
  have HI2 : Hid (Inv w w1 (.slice ao m cp) m key blk L R (.pointer bo)) := by rw [← hv]; exact HI
  rw [hv]
  clear hv HI
  go_wp2_with fail
  go_loop [11, 44] (fun want i => ∃ (q : Nat) (X : Option Nat), q ≤ m ∧ i = .int .i64 q ∧ want = ptr blk X ∧ Seen m key p q X) (fun _ i => m - (intOf i).toNat)
  case atStart => exact ⟨0, none, Nat.zero_le _, rfl, rfl, fun _ t ht => by omega, fun i e => by cases e⟩
  case round =>
    obtain ⟨q, X, hq, rfl, rfl, hseen⟩ := hrel
    have HS := show Hid _ from hseen
    clear hseen
    by_cases hqm : q < m
    · omega
    · obtain rfl : q = m := by omega
      have HG := show Hid _ from seen_end HI2.out.sh HS.out
      have hr := HI2.out.root
      have hlt0 := lt_of_block hr
      obtain ⟨ro, hro⟩ : ∃ ro, ptr blk (rootOf q) = .pointer ro := by cases rootOf q <;> exact ⟨_, rfl⟩
      rw [hro] at hr
      have hr0 : w1.cell? ⟨w.heap.size, 0, none⟩ = some (.pointer ro) := by simp [World.cell?, hr]
      have hr1 : w1.cell? ⟨w.heap.size, 1, none⟩ = some (.pointer bo) := by simp [World.cell?, hr]
      clear hr hro
      have heq := eql_same
      have hne := neq_same
      cases X with
      | none =>
        have HG2 : Hid (ptr blk (go key L R p q (rootOf q)) = .pointer none) := by rw [HG.out]; rfl
        clear HG HS
        rw [ptr_none]
        go_wp2
        go_quiet (fail)
        go_wp2_with (go_at_call 5; refine (find_at HI2 _ p _ HG2).mono ?_; rintro e w5 ⟨rfl, rfl⟩)
        go_ret
        exact ⟨rfl, below_drewN HI2.out.bel _⟩
      | some i =>
        have := (HS.out.2 i rfl).1
        omega

set_option maxRecDepth 100000 in
set_option maxHeartbeats 1600000 in
theorem picked (a : Option Addr) (len cap : Nat) (zs : List Int) (probe pick : Int) (w : World) (hl : len ≤ 512) (hp0 : 0 ≤ pick) (hp1 : pick ≤ 255) (heven : pick % 2 = 0) (h0 : 0 < len)
    (hcell : ∀ W, Below w.heap.size w W → ∀ t, t < len → ∃ x, a = some x ∧ W.cell? (x.add t) = some (.int .i64 (zs.getD t 0))) :
    Calls Yba.prog 3 #[.slice a len cap, .int .i64 probe, .int .u8 pick] w fun e w' => e = .returned (.bool true) ∧ Below w.heap.size w w' := by
  have HC : Hid (∀ W, Below w.heap.size w W → ∀ t, t < len → ∃ x, a = some x ∧ W.cell? (x.add t) = some (.int .i64 (zs.getD t 0))) := hcell
  clear hcell
  go_enter Yba.func3, Yba.ntmps3
  go_wp2_with fail
  refine (build_any a len cap zs w hl HC.out).mono ?_
  rintro e w1 ⟨v, m, key, blk, L, R, bo, rfl, hinv, hhas, hml⟩
  have HI := show Hid _ from hinv
  have HH := show Hid _ from hhas
  clear hinv hhas
  have hpl : (pick % (len : Int)).toNat < len := by have := Int.emod_lt_of_pos pick (show (0 : Int) < len by omega); have := Int.emod_nonneg pick (show (len : Int) ≠ 0 by omega); omega
  have hpn := Int.emod_nonneg pick (show (len : Int) ≠ 0 by omega)
  have hpb := Int.emod_lt_of_pos pick (show (0 : Int) < len by omega)
  obtain ⟨x, rfl, hx⟩ := HC.out w1 HI.out.bel _ hpl
  obtain ⟨p, hp⟩ : ∃ p, p = zs.getD (pick % (len : Int)).toNat 0 := ⟨_, rfl⟩
  rw [← hp] at hx
  have HP : Hid (∃ i, i < m ∧ key i = p) := by rw [hp]; exact HH.out _ hpl
  clear hp
  obtain ⟨ao, cp, hv, _⟩ := own_slice HI.out.own
  have HI2 : Hid (Inv w w1 (.slice ao m cp) m key blk L R (.pointer bo)) := by rw [← hv]; exact HI
  rw [hv]
  clear hv HI
  go_wp2_with fail
  go_loop [11, 44] (fun want i => ∃ (q : Nat) (X : Option Nat), q ≤ m ∧ i = .int .i64 q ∧ want = ptr blk X ∧ Seen m key p q X) (fun _ i => m - (intOf i).toNat)
  case atStart => exact ⟨0, none, Nat.zero_le _, rfl, rfl, fun _ t ht => by omega, fun i e => by cases e⟩
  case round =>
    obtain ⟨q, X, hq, rfl, rfl, hseen⟩ := hrel
    have HS := show Hid _ from hseen
    clear hseen
    by_cases hqm : q < m
    · obtain ⟨g, rfl, hg⟩ := own_cells HI2.out.own (ptrs_get blk m q hqm)
      obtain ⟨c0, _⟩ := HI2.out.tr.cells hqm
      have hi2 : (q : Int) < (m : Int) := by omega
      by_cases hkk : key q = p
      · have HKK := show Hid _ from hkk
        have hk1 : (key q == p) = true := by simpa using hkk
        clear hkk
        go_wp2
        go_round
        case rel => exact ⟨q + 1, some q, by omega, by go_num, rfl, seen_hit hqm HKK.out⟩
        case measure => simp [intOf]; omega
      · go_wp2
        go_round
        case rel => exact ⟨q + 1, X, by omega, by go_num, rfl, seen_miss HS.out hkk⟩
        case measure => simp [intOf]; omega
    · obtain rfl : q = m := by omega
      have HG := show Hid _ from seen_end HI2.out.sh HS.out
      have hr := HI2.out.root
      have hlt0 := lt_of_block hr
      obtain ⟨ro, hro⟩ : ∃ ro, ptr blk (rootOf q) = .pointer ro := by cases rootOf q <;> exact ⟨_, rfl⟩
      rw [hro] at hr
      have hr0 : w1.cell? ⟨w.heap.size, 0, none⟩ = some (.pointer ro) := by simp [World.cell?, hr]
      have hr1 : w1.cell? ⟨w.heap.size, 1, none⟩ = some (.pointer bo) := by simp [World.cell?, hr]
      clear hr hro
      have heq := eql_same
      have hne := neq_same
      cases X with
      | none =>
        obtain ⟨i, hi, hk⟩ := HP.out
        exact absurd hk (HS.out.1 rfl i hi)
      | some i =>
        obtain ⟨hi, hki⟩ := HS.out.2 i rfl
        obtain ⟨c0, _⟩ := HI2.out.tr.cells hi
        rw [hki] at c0
        have HG2 : Hid (ptr blk (go key L R p q (rootOf q)) = .pointer (some ⟨blk i, 0, none⟩)) := by rw [HG.out]; rfl
        clear hki HG HS
        rw [ptr_some]
        go_wp2
        go_quiet (fail)
        go_wp2_with (go_at_call 5; refine (find_at HI2 _ p _ HG2).mono ?_; rintro e w5 ⟨rfl, rfl⟩)
        go_ret
        exact ⟨rfl, below_drewN HI2.out.bel _⟩
end Go.Proofs.Ybulkckay.lawS4301BFinds
