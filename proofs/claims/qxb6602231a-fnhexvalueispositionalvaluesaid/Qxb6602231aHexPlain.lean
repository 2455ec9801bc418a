import Derived.WalkKit
import Derived.Laws.BitsAllLaws
namespace Go.Proofs.Qxb6602231a
open Go.RowKit

/-- The value of a hexadecimal digit, or -1. -/
def hd (c : Int) : Int :=
  if 48 ≤ c ∧ c ≤ 57 then c - 48 else if 65 ≤ c ∧ c ≤ 70 then c - 55 else if 97 ≤ c ∧ c ≤ 102 then c - 87 else -1

theorem hd_le (c : Int) : -1 ≤ hd c ∧ hd c ≤ 15 := by unfold hd; repeat' split <;> omega
theorem hd_low (c : Int) (h0 : 0 ≤ hd c) (h : c ≤ 57) : hd c = c - 48 ∧ 48 ≤ c := by
  unfold hd at *; split at h0 <;> (try split at h0) <;> (try split at h0) <;> simp_all <;> omega
theorem hd_mid (c : Int) (h0 : 0 ≤ hd c) (h1 : 57 < c) (h : c ≤ 70) : hd c = c - 55 ∧ 65 ≤ c := by
  unfold hd at *; split at h0 <;> (try split at h0) <;> (try split at h0) <;> simp_all <;> omega
theorem hd_high (c : Int) (h0 : 0 ≤ hd c) (h : 70 < c) : hd c = c - 87 ∧ 97 ≤ c ∧ c ≤ 102 := by
  unfold hd at *; split at h0 <;> (try split at h0) <;> (try split at h0) <;> simp_all <;> omega

/-- The positional value, base 16. -/
def pv : List Int → Int
  | [] => 0
  | c :: l => hd c * 16 ^ l.length + pv l

theorem pv_snoc (l : List Int) (c : Int) : pv (l ++ [c]) = pv l * 16 + hd c := by
  induction l with
  | nil => simp [pv]
  | cons a l ih =>
    simp only [List.cons_append, pv, List.length_append, List.length_cons, List.length_nil, ih]
    rw [Int.pow_succ, ← Int.mul_assoc]
    omega

theorem or16 (x d : Int) (h0 : 0 ≤ d) (h1 : d < 16) : bits .or .i32 (wrap32 (x * 16)) d = wrap32 (x * 16 + d) := by
  have hy : ∃ y : Nat, ((x * 16) % 4294967296) = ((y * 16 : Nat) : Int) ∧ y * 16 < 4294967296 := by
    refine ⟨(x % 268435456).toNat, ?_, ?_⟩ <;> omega
  obtain ⟨y, hy, hy2⟩ := hy
  obtain ⟨e, rfl⟩ := Int.eq_ofNat_of_zero_le h0
  have e1 : (BitVec.ofInt 32 (wrap32 (x * 16))).toNat = y * 16 := by
    rw [BitVec.toNat_ofInt]
    have : wrap32 (x * 16) % 4294967296 = ((y * 16 : Nat) : Int) := by unfold wrap32; omega
    show (wrap32 (x * 16) % 4294967296).toNat = _
    rw [this]; omega
  have e2 : (BitVec.ofInt 32 ((e : Nat) : Int)).toNat = e := by
    rw [BitVec.toNat_ofInt]
    show (((e : Nat) : Int) % 4294967296).toNat = _
    omega
  have e3 : bits .or .i32 (wrap32 (x * 16)) (e : Int) = IntKind.i32.wrap ((y * 16 + e : Nat) : Int) := by
    show IntKind.i32.wrap (((BitVec.ofInt 32 (wrap32 (x * 16))) ||| (BitVec.ofInt 32 ((e : Nat) : Int))).toNat : Int) = _
    rw [BitVec.toNat_or, e1, e2, nat_join 4 (y * 16) e (by omega) (by omega)]
  rw [e3]
  have : IntKind.i32.wrap ((y * 16 + e : Nat) : Int) = wrap32 ((y * 16 + e : Nat) : Int) := by
    simp only [IntKind.wrap, IntKind.bits, IntKind.signed, wrap32]
    simp
    split <;> omega
  rw [this]
  unfold wrap32
  omega

theorem wrap32_step (a d : Int) : wrap32 (wrap32 a * 16 + d) = wrap32 (a * 16 + d) := by unfold wrap32; omega

theorem and15 (x : Int) (h0 : 0 ≤ x) (h1 : x < 2147483648) : bits .and .i32 x 15 = x % 16 := by
  obtain ⟨n, rfl⟩ := Int.eq_ofNat_of_zero_le h0
  have e1 : (BitVec.ofInt 32 ((n : Nat) : Int)).toNat = n := by
    rw [BitVec.toNat_ofInt]; show (((n : Nat) : Int) % 4294967296).toNat = _; omega
  show IntKind.i32.wrap (((BitVec.ofInt 32 ((n : Nat) : Int)) &&& (BitVec.ofInt 32 15)).toNat : Int) = _
  rw [BitVec.toNat_and, e1]
  show IntKind.i32.wrap ((n &&& 15 : Nat) : Int) = _
  rw [nat_mask4]
  simp only [IntKind.wrap, IntKind.bits, IntKind.signed]
  simp
  split <;> omega
end Go.Proofs.Qxb6602231a
