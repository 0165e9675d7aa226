/-
  'zzs4301bbuild' BY ITS CONTRACT.
-/
import Derived.Test.YbulkckayInv
import Derived.Deep.QuietTactic
import Derived.BigQuiet
namespace Go.Proofs.Ybulkckay
open Go.RowKit

theorem Yba.info27 : (Yba.prog.info? 27).map (fun i => (i.zero, i.size, i.bytes)) = some (some (.pointer none), 1, 8) := by kernel_rfl

theorem app_ptr {ops : Array Oper} {rest : List Oper} {o : Oper} {a : Act} {Q : Exit → Act → World → Prop} (wr : World) (b off : Nat) (z : Int) (hgd : o.guard = none) (s x : Operand)
    (ho : o.op = .call { callee := .builtin .append, args := #[s, x], argTypes := #[24, 24] })
    (base : Nat) (v : Value) (n : Nat) (xs : List Value) (hs : a.eval s = v) (hown : (grow wr b off z).ownsRow base 27 1 v n xs)
    (hx : a.eval x = .slice (some ⟨wr.heap.size + 1, 0, none⟩) 1 1)
    (hn : n + 1 ≤ 1000000) (hbase : base ≤ wr.heap.size)
    (h : ∀ v' w', w'.ownsRow base 27 1 v' (n + 1) (xs ++ [.pointer (some ⟨wr.heap.size, 0, none⟩)]) → (grow wr b off z).grownBy w' v.ownBlock → wpList Yba.prog ops Q rest (a.put o.dst v') w') :
    wpList Yba.prog ops Q (o :: rest) a (grow wr b off z) := by
  obtain ⟨i0, hi, hz0, hz1, hz2⟩ := info_parts Yba.info27
  have hc := cell_one_new ((wr.setCell ⟨b, off, none⟩ (.pointer (some ⟨wr.heap.size, 0, none⟩))).alloc (newNode z)) (.pointer (some ⟨wr.heap.size, 0, none⟩)) 27
  rw [World.size_alloc, size_setCell] at hc
  refine wpList_append_own (grow wr b off z) hgd s x 24 ho base 27 i0 (.pointer none) 1 8 Yba.underlying24 hi hz0 hz1 hz2 rfl (by decide) v n _ hs hown _ 1 1 [.pointer (some ⟨wr.heap.size, 0, none⟩)] hx rfl hc (fun u hu => by simp at hu; subst hu; rfl) (by unfold maxLen; omega) (by omega) (by rw [size_grow]; omega) ?_
  intro v' w' h1 h2 _
  exact h v' w' h1 h2

theorem own_cells {w : World} {base n cp : Nat} {e : TypeId} {ao : Option Addr} {xs : List Value} (h : w.ownsRow base e 1 (.slice ao n cp) n xs) {j : Nat} {u : Value} (hu : xs[j]? = some u) :
    ∃ g, ao = some ⟨g, 0, none⟩ ∧ w.cell? ⟨g, j, none⟩ = some u := by
  obtain ⟨ao', cap', hv, hc⟩ := own_slice h
  cases hv
  obtain ⟨g, h1, _, h3⟩ := hc j u hu
  exact ⟨g, h1, h3⟩

/-- Every key that came is some node's. -/
def Has (m : Nat) (key : Nat → Int) (zs : List Int) (k : Nat) : Prop := ∀ t, t < k → ∃ i, i < m ∧ key i = zs.getD t 0
theorem has_keep {m : Nat} {key : Nat → Int} {zs : List Int} {k : Nat} {z : Int} (h : Has m key zs k) (hz : Hid (z = zs.getD k 0)) {i : Nat} (hi : i < m) (hk : z = key i) : Has m key zs (k + 1) := by
  intro t ht
  by_cases e : t = k
  · subst e; exact ⟨i, hi, by rw [← hk, hz.out]⟩
  · exact h t (by omega)
theorem has_add {m : Nat} {key : Nat → Int} {zs : List Int} {k : Nat} {z : Int} (h : Has m key zs k) (hz : Hid (z = zs.getD k 0)) : Has (m + 1) (upd key m z) zs (k + 1) := by
  intro t ht
  by_cases e : t = k
  · subst e; exact ⟨m, by omega, by rw [upd_same, hz.out]⟩
  · obtain ⟨i, hi, he⟩ := h t (by omega)
    exact ⟨i, by omega, by rw [upd_other _ _ _ _ (by omega), he]⟩

set_option maxRecDepth 100000 in
set_option maxHeartbeats 1600000 in
theorem build_any (a : Option Addr) (len cap : Nat) (zs : List Int) (w : World) (hl : len ≤ 512)
    (hcell : ∀ W, Below w.heap.size w W → ∀ t, t < len → ∃ x, a = some x ∧ W.cell? (x.add t) = some (.int .i64 (zs.getD t 0))) :
    Calls Yba.prog 4 #[.slice a len cap] w fun e w' => ∃ v m key blk L R bo, e = .returned (.tuple #[.pointer (some ⟨w.heap.size, 0, none⟩), v]) ∧ Inv w w' v m key blk L R (.pointer bo) ∧ Has m key zs len ∧ m ≤ len := by
  have HC : Hid (∀ W, Below w.heap.size w W → ∀ t, t < len → ∃ x, a = some x ∧ W.cell? (x.add t) = some (.int .i64 (zs.getD t 0))) := hcell
  clear hcell
  go_enter Yba.func4, Yba.ntmps4
  go_wp2
  go_loopw [5, 17] (fun v i wr => ∃ (k m : Nat) (key : Nat → Int) (blk : Nat → Nat) (L R : Nat → Option Nat), k ≤ len ∧ m ≤ k ∧ i = .int .i64 k ∧ Inv w wr v m key blk L R (.pointer none) ∧ Has m key zs k)
    (fun _ i _ => len - (intOf i).toNat)
  case atStart => exact ⟨0, 0, _, _, _, _, Nat.zero_le _, Nat.le_refl _, rfl, inv_start w, fun t ht => by omega⟩
  case round =>
    obtain ⟨k, m, key, blk, L, R, hk, hm, rfl, hinv, hks⟩ := hrel
    have HI := show Hid _ from hinv
    have HK := show Hid _ from hks
    clear hinv hks
    have hbel := HI.out.bel.size
    have hr := HI.out.root
    have hlt0 := lt_of_block hr
    have hf0 : wr.frozen? ⟨w.heap.size, 0, none⟩ = false := by simp [World.frozen?, hr]
    have hr0 : wr.cell? ⟨w.heap.size, 0, none⟩ = some (ptr blk (rootOf m)) := by simp [World.cell?, hr]
    clear hr
    by_cases hlt : k < len
    · obtain ⟨x, rfl, hx⟩ := HC.out wr HI.out.bel k hlt
      obtain ⟨z, hz⟩ : ∃ z, z = zs.getD k 0 := ⟨_, rfl⟩
      rw [← hz] at hx
      have HZ := show Hid _ from hz
      clear hz
      have hi1 : (k : Int) < (len : Int) := by omega
      by_cases hm0 : m = 0
      · subst hm0
        rw [show rootOf 0 = none from rfl, ptr_none] at hr0
        go_wp2_with (at_builtin; refine app_ptr wr w.heap.size 0 z rfl (.tmp 34) (.tmp 36) rfl w.heap.size _ 0 (ptrs blk 0) rfl (own_grow HI.out.own HI.out.root (by decide)) rfl (by decide) hbel ?_; intro v1 w1 ho1 hg1)
        go_roundw
        case rel => exact ⟨k + 1, 1, _, _, _, _, by omega, by omega, by go_num, inv_first HI.out hg1 ho1, has_add HK.out HZ⟩
        case measure => simp [intOf]; omega
      · rw [rootOf_pos (by omega), ptr_some] at hr0
        obtain ⟨ao, cp, hv, _⟩ := own_slice HI.out.own
        have HI2 : Hid (Inv w wr (.slice ao m cp) m key blk L R (.pointer none)) := by rw [← hv]; exact HI
        have HV := show Hid _ from hv
        clear hv HI
        go_wp2_with fail
        go_loopw [5, 9, 10] (fun v9 n st wq => ∃ j i : Nat, v9 = .slice ao m cp ∧ n = .pointer (some ⟨blk i, 0, none⟩) ∧ st = .int .i64 j ∧ j ≤ i ∧ i < m ∧ Reach key L R z j i (some 0) ∧ wq = wr.alloc (newNode z))
          (fun _ n _ _ => rank wr.heap.size n)
        case atStart => exact ⟨0, 0, HV.out, rfl, rfl, Nat.le_refl _, by omega, reach_start _ _ _ _, rfl⟩
        case round =>
          obtain ⟨j, i, rfl, rfl, rfl, hj, hi, hre, rfl⟩ := hrel
          have HR := show Hid _ from hre
          clear hre HV
          obtain ⟨c0, c8, c9, f8, f9⟩ := HI2.out.tr.cells hi
          have hlti := HI2.out.tr.lt hi
          unfold newNode
          by_cases hz1 : z = key i
          · have HZ1 := show Hid _ from hz1
            have hz1' : (z == key i) = true := by simpa using hz1
            clear hz1
            go_wp2_with fail
            go_roundw
            case rel => exact ⟨k + 1, m, _, _, _, _, by omega, by omega, by go_num, HI2.out.alloc _, has_keep HK.out HZ hi HZ1.out⟩
            case measure => simp [intOf]; omega
          · by_cases hz2 : z < key i
            · cases hc : L i with
              | none =>
                have HL := show Hid _ from hc
                rw [hc, ptr_none] at c8
                clear hc
                go_wp2_with (at_builtin; refine app_ptr wr (blk i) 8 z rfl (.tmp 69) (.tmp 71) rfl w.heap.size _ m (ptrs blk m) rfl (own_grow HI2.out.own (HI2.out.tr.node i hi) (by decide)) rfl (by omega) hbel ?_; intro v1 w1 ho1 hg1)
                go_roundw
                case rel => exact ⟨k + 1, m + 1, _, _, _, _, by omega, by omega, by go_num, inv_left HI2.out hi HR.out hj hz2 HL.out hg1 ho1, has_add HK.out HZ⟩
                case measure => simp [intOf]; omega
              | some c =>
                have HL := show Hid _ from hc
                rw [hc, ptr_some] at c8
                have hlr := HI2.out.sh.lr i hi c (.inl hc)
                have hmo := HI2.out.tr.mono i c hlr.1 hlr.2
                have hltc := HI2.out.tr.lt hlr.2
                clear hc
                go_wp2_with fail
                go_roundw
                case rel => exact ⟨j + 1, c, rfl, rfl, by go_num, by omega, hlr.2, reach_left HR.out hlr.1 HL.out hz2, by first | trivial | rfl⟩
                case measure => simp [rank]; omega
            · cases hc : R i with
              | none =>
                have HL := show Hid _ from hc
                rw [hc, ptr_none] at c9
                clear hc
                go_wp2_with (at_builtin; refine app_ptr wr (blk i) 9 z rfl (.tmp 86) (.tmp 88) rfl w.heap.size _ m (ptrs blk m) rfl (own_grow HI2.out.own (HI2.out.tr.node i hi) (by decide)) rfl (by omega) hbel ?_; intro v1 w1 ho1 hg1)
                go_roundw
                case rel => exact ⟨k + 1, m + 1, _, _, _, _, by omega, by omega, by go_num, inv_right HI2.out hi HR.out hj (fun e => hz1 e.symm) hz2 HL.out hg1 ho1, has_add HK.out HZ⟩
                case measure => simp [intOf]; omega
              | some c =>
                have HL := show Hid _ from hc
                rw [hc, ptr_some] at c9
                have hlr := HI2.out.sh.lr i hi c (.inr hc)
                have hmo := HI2.out.tr.mono i c hlr.1 hlr.2
                have hltc := HI2.out.tr.lt hlr.2
                clear hc
                go_wp2_with fail
                go_roundw
                case rel => exact ⟨j + 1, c, rfl, rfl, by go_num, by omega, hlr.2, reach_right HR.out hlr.1 HL.out (fun e => hz1 e.symm) hz2, by first | trivial | rfl⟩
                case measure => simp [rank]; omega
    · obtain ⟨ao, cp, hv, _⟩ := own_slice HI.out.own
      have HI2 : Hid (Inv w wr (.slice ao m cp) m key blk L R (.pointer none)) := by rw [← hv]; exact HI
      rw [hv]
      obtain rfl : k = len := by omega
      clear hv HI hr0 hf0
      go_wp2_with fail
      go_loopw [97] (fun i wq => ∃ (q : Nat) (best : Value), q ≤ m ∧ i = .int .i64 q ∧ Inv w wq (.slice ao m cp) m key blk L R best ∧ (best = .pointer none ∨ ∃ b, b < m ∧ best = .pointer (some ⟨blk b, 0, none⟩)))
        (fun i _ => m - (intOf i).toNat)
      case atStart => exact ⟨0, _, Nat.zero_le _, rfl, HI2.out, .inl rfl⟩
      case round =>
        obtain ⟨q, best, hq, rfl, hinv, hbest⟩ := hrel
        clear HI2 hlt0
        have HI := show Hid _ from hinv
        have hr := hinv.root
        have hlt0 := lt_of_block hr
        have hf1 : wr.frozen? ⟨w.heap.size, 1, none⟩ = false := by simp [World.frozen?, hr]
        have hr1 : wr.cell? ⟨w.heap.size, 1, none⟩ = some best := by simp [World.cell?, hr]
        clear hr hinv
        by_cases hqm : q < m
        · obtain ⟨g, rfl, hg⟩ := own_cells HI.out.own (ptrs_get blk m q hqm)
          obtain ⟨c0, _⟩ := HI.out.tr.cells hqm
          have hi2 : (q : Int) < (m : Int) := by omega
          rcases hbest with rfl | ⟨b, hb, rfl⟩
          · go_wp2
            go_quiet (fail)
            go_wp2
            go_roundw
            case rel => exact ⟨q + 1, .pointer (some ⟨blk q, 0, none⟩), by omega, by go_num, inv_drewN (inv_best HI.out _) _, .inr ⟨q, hqm, rfl⟩⟩
            case measure => simp [intOf]; omega
          · obtain ⟨d0, _⟩ := HI.out.tr.cells hb
            by_cases hkk : key q < key b
            · go_wp2
              go_quiet (fail)
              go_wp2
              go_roundw
              case rel => exact ⟨q + 1, .pointer (some ⟨blk q, 0, none⟩), by omega, by go_num, inv_drewN (inv_best HI.out _) _, .inr ⟨q, hqm, rfl⟩⟩
              case measure => simp [intOf]; omega
            · go_wp2
              go_quiet (fail)
              go_wp2
              go_roundw
              case rel => exact ⟨q + 1, .pointer (some ⟨blk b, 0, none⟩), by omega, by go_num, inv_drewN HI.out _, .inr ⟨b, hb, rfl⟩⟩
              case measure => simp [intOf]; omega
        · go_wp2
          go_ret2
          obtain ⟨bo, hbo⟩ : ∃ bo, best = .pointer bo := by rcases hbest with h | ⟨b, _, h⟩ <;> exact ⟨_, h⟩
          exact ⟨_, m, key, blk, L, R, bo, rfl, by rw [← hbo]; exact HI.out, HK.out, hm⟩
end Go.Proofs.Ybulkckay
