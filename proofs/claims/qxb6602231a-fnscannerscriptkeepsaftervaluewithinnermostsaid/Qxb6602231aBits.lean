import Derived.WalkKit
import Derived.Laws.BitsAllLaws
namespace Go.Proofs.Qxb6602231a
open Go.RowKit

/-- The number whose bit i is f i, for i < k. -/
def packN (f : Nat → Bool) : Nat → Nat
  | 0 => 0
  | k + 1 => packN f k ||| (if f k then 2 ^ k else 0)

theorem packN_bit (f : Nat → Bool) (k i : Nat) : (packN f k).testBit i = (decide (i < k) && f i) := by
  induction k with
  | zero => simp [packN]
  | succ k ih =>
    rw [packN, Nat.testBit_or, ih]
    by_cases hk : f k
    · simp only [hk, if_true, Nat.testBit_two_pow]
      by_cases e : k = i
      · subst e; simp [hk]
      · simp only [e, decide_false, Bool.or_false]
        congr 1
        simp only [decide_eq_decide]
        omega
    · simp only [hk]
      by_cases e : k = i
      · subst e; simp [hk]
      · simp only [Bool.false_eq_true, if_false, Nat.zero_testBit, Bool.or_false]
        congr 1
        simp only [decide_eq_decide]
        omega
theorem packN_lt (f : Nat → Bool) (k : Nat) : packN f k < 2 ^ k := by
  induction k with
  | zero => simp [packN]
  | succ k ih =>
    rw [packN]
    have h1 : 2 ^ k < 2 ^ (k + 1) := Nat.pow_lt_pow_right (by omega) (by omega)
    refine Nat.or_lt_two_pow (by omega) ?_
    split
    · exact h1
    · exact Nat.lt_of_le_of_lt (Nat.zero_le _) h1

/-- Byte j of the bits bs, eight to a byte, the least first. -/
def byteOf (bs : List Bool) (j : Nat) : Nat := packN (fun k => bs.getD (8 * j + k) false) 8
theorem byteOf_lt (bs : List Bool) (j : Nat) : byteOf bs j < 256 := packN_lt _ 8
theorem byteOf_bit (bs : List Bool) (j k : Nat) : (byteOf bs j).testBit k = (decide (k < 8) && bs.getD (8 * j + k) false) := packN_bit _ 8 k

theorem pow_mod8 (i : Nat) : ((2 : Int) ^ (i % 8) % 256) = ((2 ^ (i % 8) : Nat) : Int) ∧ 2 ^ (i % 8) < 256 := by
  have h : i % 8 < 8 := Nat.mod_lt _ (by omega)
  have h2 : 2 ^ (i % 8) < 2 ^ 8 := Nat.pow_lt_pow_right (by omega) h
  refine ⟨?_, h2⟩
  rw [show ((2 : Int) ^ (i % 8)) = ((2 ^ (i % 8) : Nat) : Int) by simp]
  generalize 2 ^ (i % 8) = q at h2 ⊢
  omega

theorem and_pow (x k : Nat) : (x &&& 2 ^ k = 0) ↔ x.testBit k = false := by
  constructor
  · intro h
    have : (x &&& 2 ^ k).testBit k = false := by rw [h]; simp
    rw [Nat.testBit_and, Nat.testBit_two_pow_self] at this
    simpa using this
  · intro h
    apply Nat.eq_of_testBit_eq
    intro j
    rw [Nat.testBit_and, Nat.testBit_two_pow, Nat.zero_testBit]
    by_cases e : k = j
    · subst e; simp [h]
    · simp [e]

theorem bit_at (bs : List Bool) (i : Nat) : (bits .and .u8 (byteOf bs (i / 8) : Int) (2 ^ (i % 8) % 256) != 0) = bs.getD i false := by
  rw [(pow_mod8 i).1, u8_and_nat _ _ (byteOf_lt _ _) (pow_mod8 i).2]
  have hb := byteOf_bit bs (i / 8) (i % 8)
  rw [show 8 * (i / 8) + i % 8 = i by omega] at hb
  have h8 : i % 8 < 8 := Nat.mod_lt _ (by omega)
  simp only [h8, decide_true, Bool.true_and] at hb
  cases hv : bs.getD i false with
  | false =>
    rw [hv] at hb
    rw [(and_pow _ _).2 hb]; rfl
  | true =>
    rw [hv] at hb
    rw [bne_iff_ne]
    intro h
    have : byteOf bs (i / 8) &&& 2 ^ (i % 8) = 0 := by omega
    rw [and_pow, hb] at this
    cases this

theorem getD_snoc (bs : List Bool) (b : Bool) (i : Nat) : (bs ++ [b]).getD i false = if i = bs.length then b else bs.getD i false := by
  by_cases h : i < bs.length
  · rw [if_neg (by omega)]
    simp [List.getElem?_append_left h]
  · by_cases e : i = bs.length
    · subst e; simp
    · rw [if_neg e]
      simp [List.getElem?_append_right (Nat.le_of_not_lt h), List.getElem?_eq_none (Nat.le_of_not_lt h)]
      rw [List.getElem?_eq_none (by simp; omega)]; rfl

theorem byteOf_false (bs : List Bool) (j : Nat) : byteOf (bs ++ [false]) j = byteOf bs j := by
  apply Nat.eq_of_testBit_eq
  intro k
  rw [byteOf_bit, byteOf_bit, getD_snoc]
  split
  · next h => rw [h]; simp
  · rfl

theorem byteOf_other (bs : List Bool) (b : Bool) (j : Nat) (h : j ≠ bs.length / 8) : byteOf (bs ++ [b]) j = byteOf bs j := by
  apply Nat.eq_of_testBit_eq
  intro k
  rw [byteOf_bit, byteOf_bit, getD_snoc]
  by_cases hk : k < 8
  · rw [if_neg (by omega)]
  · simp [hk]

theorem byteOf_true (bs : List Bool) : byteOf (bs ++ [true]) (bs.length / 8) = byteOf bs (bs.length / 8) ||| 2 ^ (bs.length % 8) := by
  apply Nat.eq_of_testBit_eq
  intro k
  rw [Nat.testBit_or, byteOf_bit, byteOf_bit, getD_snoc, Nat.testBit_two_pow]
  by_cases hk : k < 8
  · by_cases e : bs.length % 8 = k
    · rw [if_pos (by omega)]; simp [hk, e]
    · rw [if_neg (by omega)]; simp [e]
  · simp [hk]
    omega

theorem bit_or (bs : List Bool) : bits .or .u8 (byteOf bs (bs.length / 8) : Int) (2 ^ (bs.length % 8) % 256) = (byteOf (bs ++ [true]) (bs.length / 8) : Int) := by
  rw [(pow_mod8 _).1, u8_or_nat _ _ (byteOf_lt _ _) (pow_mod8 _).2, byteOf_true]

theorem testBit_255_sub (m k : Nat) (hm : m < 8) : (255 - 2 ^ m).testBit k = (decide (k < 8) && !decide (m = k)) := by
  have hp : 2 ^ m < 2 ^ 8 := Nat.pow_lt_pow_right (by omega) hm
  have := Nat.testBit_two_pow_sub_succ (n := 8) (x := 2 ^ m) hp k
  rw [show (2 : Nat) ^ 8 - (2 ^ m + 1) = 255 - 2 ^ m by omega] at this
  rw [this, Nat.testBit_two_pow]

theorem bit_clear (bs : List Bool) (b : Bool) : bits .andNot .u8 (byteOf (bs ++ [b]) (bs.length / 8) : Int) (2 ^ (bs.length % 8) % 256) = (byteOf bs (bs.length / 8) : Int) := by
  rw [(pow_mod8 _).1, u8_andNot_nat _ _ (byteOf_lt _ _) (pow_mod8 _).2]
  congr 1
  apply Nat.eq_of_testBit_eq
  intro k
  rw [Nat.testBit_and, byteOf_bit, byteOf_bit, getD_snoc, testBit_255_sub _ _ (Nat.mod_lt _ (by omega))]
  by_cases hk : k < 8
  · by_cases e : bs.length % 8 = k
    · rw [if_pos (by omega)]
      have : bs.getD (8 * (bs.length / 8) + k) false = false := by
        rw [show 8 * (bs.length / 8) + k = bs.length by omega]; simp
      rw [this]; simp [e]
    · rw [if_neg (by omega)]; simp [e, hk]
  · simp [hk]

/-- The first m bytes, as the machine's values. -/
def pkn (bs : List Bool) (m : Nat) : List Value := (List.range m).map fun j => Value.int .u8 (byteOf bs j : Int)
theorem pkn_len (bs : List Bool) (m : Nat) : (pkn bs m).length = m := by simp [pkn]
theorem pkn_at (bs : List Bool) (m j : Nat) (h : j < m) : (pkn bs m)[j]? = some (.int .u8 (byteOf bs j : Int)) := by simp [pkn, h]
theorem pkn_snoc (bs : List Bool) (m : Nat) : pkn bs (m + 1) = pkn bs m ++ [.int .u8 (byteOf bs m : Int)] := by simp [pkn, List.range_succ]
theorem pkn_congr (bs cs : List Bool) (m : Nat) (h : ∀ j, j < m → byteOf bs j = byteOf cs j) : pkn bs m = pkn cs m := by
  unfold pkn
  apply List.map_congr_left
  intro j hj
  rw [h j (by simpa using hj)]
theorem pkn_false (bs : List Bool) (m : Nat) : pkn (bs ++ [false]) m = pkn bs m := pkn_congr _ _ _ fun j _ => byteOf_false bs j
theorem pkn_set (bs cs : List Bool) (m q : Nat) (h : ∀ j, j ≠ q → byteOf bs j = byteOf cs j) : (pkn bs m).set q (.int .u8 (byteOf cs q : Int)) = pkn cs m := by
  apply List.ext_getElem?
  intro j
  rw [List.getElem?_set]
  by_cases e : q = j
  · subst e
    rw [if_pos rfl]
    by_cases hq : q < m
    · rw [if_pos (by rw [pkn_len]; exact hq), pkn_at _ _ _ hq]
    · rw [if_neg (by rw [pkn_len]; exact hq), List.getElem?_eq_none (by rw [pkn_len]; omega)]
  · rw [if_neg e]
    simp only [pkn, List.getElem?_map]
    by_cases hj : j < m
    · simp [hj, h j (Ne.symm e)]
    · simp [hj]
theorem byteOf_past (bs : List Bool) (j : Nat) (h : bs.length ≤ 8 * j) : byteOf bs j = 0 := by
  apply Nat.eq_of_testBit_eq
  intro k
  rw [byteOf_bit, Nat.zero_testBit]
  simp
  intro _
  rw [List.getElem?_eq_none (by omega)]; rfl
end Go.Proofs.Qxb6602231a
