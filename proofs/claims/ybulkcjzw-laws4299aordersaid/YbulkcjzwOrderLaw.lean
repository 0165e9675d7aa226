/-
  THE PLAIN LAW: escaped texts compare as the texts do. No Go in sight.
-/
import Derived.Test.YbulkcjzwEsc
import Derived.Lib.BytesEntry
namespace Go.Proofs.Ybulkcjzw
open Go.RowKit

def escU (l : List UInt8) : List UInt8 := l.flatMap fun c => if c = 0 then [0, 255] else [c]

theorem bytesOf_escB (c : UInt8) : Lib.bytesOf (escB c) = if c = 0 then [0, 255] else [c] := by
  unfold escB Lib.bytesOf
  by_cases h : c = 0
  · subst h; simp
  · have : c.toNat ≠ 0 := fun e => h (UInt8.toNat_inj.1 (by simpa using e))
    simp [h, this]

theorem bytesOf_app (a b : List Int) : Lib.bytesOf (a ++ b) = Lib.bytesOf a ++ Lib.bytesOf b := by simp [Lib.bytesOf]

theorem bytesOf_escL (l : List UInt8) : Lib.bytesOf (escL l ++ [0, 1]) = escU l ++ [0, 1] := by
  rw [bytesOf_app]
  congr 1
  induction l with
  | nil => rfl
  | cons c r ih =>
    have e : escL (c :: r) = escB c ++ escL r := by simp [escL]
    rw [e, bytesOf_app, bytesOf_escB, ih]
    simp [escU]

theorem pos_of_ne {c : UInt8} (h : c ≠ 0) : (0 : UInt8) < c := by
  have : c.toNat ≠ 0 := fun e => h (UInt8.toNat_inj.1 (by simpa using e))
  rw [UInt8.lt_iff_toNat_lt]; simp; omega

theorem compare_esc : ∀ (s t : List UInt8), Lib.compareBytes (escU s ++ [0, 1]) (escU t ++ [0, 1]) = Lib.compareBytes s t
  | [], [] => by decide
  | [], c :: t => by
    by_cases h : c = 0
    · subst h
      have : (1 : UInt8) < 255 := by decide
      simp [escU, Lib.compareBytes, this]
    · simp [escU, Lib.compareBytes, h, pos_of_ne h]
  | c :: s, [] => by
    by_cases h : c = 0
    · subst h
      have : (1 : UInt8) < 255 := by decide
      have h2 : ¬ (255 : UInt8) < 1 := by decide
      simp [escU, Lib.compareBytes, this, h2]
    · have h2 : ¬ c < 0 := by simp
      simp [escU, Lib.compareBytes, h, pos_of_ne h, h2]
  | a :: s, b :: t => by
    have ih := compare_esc s t
    unfold escU at ih
    by_cases ha : a = 0
    · by_cases hb : b = 0
      · subst ha; subst hb
        simp [escU, Lib.compareBytes, ih]
      · subst ha
        simp [escU, Lib.compareBytes, hb, pos_of_ne hb]
    · by_cases hb : b = 0
      · subst hb
        simp [escU, Lib.compareBytes, ha, pos_of_ne ha]
      · simp [escU, Lib.compareBytes, ha, hb, ih]
end Go.Proofs.Ybulkcjzw
