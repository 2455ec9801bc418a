import Derived.Test.Qxb6601218aRow
import Derived.Lib.IndexBytes
namespace Go.Proofs.Qxb6601218a
open Go.RowKit

theorem sz (r : ByteArray) : r.size = r.data.toList.length := Lib.size_eq r

theorem rest_nil (r : ByteArray) (h : r.data.toList = []) : (!r.toList.isEmpty) = false := by
  rw [Lib.toList_data, h]; rfl
theorem rest_some (r : ByteArray) (c : UInt8) (X : List UInt8) (h : r.data.toList = c :: X) : (!r.toList.isEmpty) = true ∧ 0 < r.size := by
  refine ⟨by rw [Lib.toList_data, h]; rfl, by rw [sz, h]; simp⟩
theorem rest_head (r : ByteArray) (c : UInt8) (X : List UInt8) (h : r.data.toList = c :: X) (h0 : 0 < r.size) : r[0]'h0 = c := by
  have e : r.data.toList[0]? = some (r[0]'h0) := by
    rw [Array.getElem?_toList, Array.getElem?_eq_getElem (by simpa using h0)]; rfl
  rw [h] at e
  simpa using e.symm
theorem rest_two (r : ByteArray) (X : List UInt8) (h : r.data.toList = 42 :: 42 :: X) :
    ((r.extract 0 2).toList == [42, 42]) = true ∧ 1 < r.size ∧ (r.extract 2 r.size).data.toList = X ∧ (r.extract 2 r.size).size + 2 = r.size := by
  refine ⟨by rw [Lib.extract_toList, h]; rfl, by rw [sz, h]; simp, by rw [Lib.extract_to_end, h]; rfl, ?_⟩
  rw [sz (r.extract 2 r.size), Lib.extract_to_end, sz r, h]
  simp
theorem rest_tail (r : ByteArray) (c : UInt8) (X : List UInt8) (h : r.data.toList = c :: X) :
    (r.extract 1 r.size).data.toList = X ∧ (r.extract 1 r.size).size + 1 = r.size := by
  refine ⟨by rw [Lib.extract_to_end, h]; rfl, ?_⟩
  rw [sz (r.extract 1 r.size), Lib.extract_to_end, sz r, h]
  simp
theorem rest_not_two (r : ByteArray) (h : ∀ X, r.data.toList ≠ 42 :: 42 :: X) : ((r.extract 0 2).toList == [42, 42]) = false := by
  rw [Lib.extract_toList, beq_eq_false_iff_ne]
  intro e
  match hl : r.data.toList with
  | [] => rw [hl] at e; simp at e
  | [c] => rw [hl] at e; simp at e
  | c :: d :: X =>
    rw [hl] at e
    simp at e
    obtain ⟨rfl, rfl⟩ := e
    exact h X hl
/-- The three ways of a pattern's rest. -/
theorem rest_ways (l : List UInt8) : l = [] ∨ (∃ X, l = 42 :: 42 :: X) ∨ (∃ X, l = 42 :: X ∧ ∀ d r', X = d :: r' → d ≠ 42) ∨ (∃ c X, l = c :: X ∧ c ≠ 42) := by
  match l with
  | [] => exact .inl rfl
  | [c] =>
    by_cases h : c = 42
    · subst h; exact .inr (.inr (.inl ⟨[], rfl, fun d r' e => by cases e⟩))
    · exact .inr (.inr (.inr ⟨c, [], rfl, h⟩))
  | c :: d :: X =>
    by_cases h : c = 42
    · subst h
      by_cases h2 : d = 42
      · subst h2; exact .inr (.inl ⟨X, rfl⟩)
      · exact .inr (.inr (.inl ⟨d :: X, rfl, fun d' r' e => by cases e; exact h2⟩))
    · exact .inr (.inr (.inr ⟨c, d :: X, rfl, h⟩))
theorem byte_int (c : UInt8) (h : c ≠ 42) : ((c.toNat : Int) == 42) = false := by
  rw [beq_eq_false_iff_ne]
  intro e
  exact h (UInt8.toNat_inj.1 (by show c.toNat = 42; omega))
end Go.Proofs.Qxb6601218a
