import Derived.WalkKit
namespace Go.Proofs.Qxb6601218a

/-! THE PLAIN PART of mergeSlashes: no Go in sight. -/

/-- Byte i stays: it is no slash, or the first byte, or what stands before it is no slash. -/
def keep (l : List UInt8) (i : Nat) : Bool := (l.getD i 0 != 47) || i == 0 || (l.getD (i - 1) 0 != 47)

/-- What is left of the first k bytes. -/
def mg (l : List UInt8) : Nat → List UInt8
  | 0 => []
  | k + 1 => if keep l k then mg l k ++ [l.getD k 0] else mg l k

theorem mg_yes {l : List UInt8} {k : Nat} (h : keep l k = true) : mg l (k + 1) = mg l k ++ [l.getD k 0] := by simp [mg, h]
theorem mg_no {l : List UInt8} {k : Nat} (h : keep l k = false) : mg l (k + 1) = mg l k := by simp [mg, h]
theorem mg_len (l : List UInt8) (k : Nat) : (mg l k).length ≤ k := by
  induction k with
  | zero => simp [mg]
  | succ k ih =>
    cases h : keep l k with
    | true => rw [mg_yes h]; simp; omega
    | false => rw [mg_no h]; omega
theorem mg_prefix (l : List UInt8) (k n : Nat) (h : k ≤ n) : ∃ t, mg l n = mg l k ++ t := by
  induction n with
  | zero => obtain rfl : k = 0 := by omega
            exact ⟨[], by simp⟩
  | succ n ih =>
    by_cases e : k = n + 1
    · subst e; exact ⟨[], by simp⟩
    · obtain ⟨t, ht⟩ := ih (by omega)
      cases h : keep l n with
      | true => exact ⟨t ++ [l.getD n 0], by rw [mg_yes h, ht]; simp⟩
      | false => exact ⟨t, by rw [mg_no h, ht]⟩

/-- The last byte kept is a slash just if the last byte read is. -/
theorem mg_last (l : List UInt8) (k : Nat) : (mg l (k + 1)).getLast? = some 47 ↔ l.getD k 0 = 47 := by
  induction k with
  | zero =>
    have h : keep l 0 = true := by simp [keep]
    rw [mg_yes h]; simp [mg]
  | succ k ih =>
    cases h : keep l (k + 1) with
    | true => rw [mg_yes h]; simp
    | false =>
      rw [mg_no h]
      simp [keep] at h
      rw [ih]
      simp only [List.getD_eq_getElem?_getD]
      exact ⟨fun _ => h.1, fun _ => h.2⟩

/-- No two slashes stand side by side in what is left. -/
theorem mg_apart (l : List UInt8) (n : Nat) : ∀ j : Nat, (mg l n)[j]? = some (47 : UInt8) → (mg l n)[j + 1]? ≠ some (47 : UInt8) := by
  induction n with
  | zero => intro j h; simp [mg] at h
  | succ n ih =>
    cases h : keep l n with
    | false => rw [mg_no h]; exact ih
    | true =>
      rw [mg_yes h]
      intro j h1 h2
      have hj2 : j + 1 < (mg l n ++ [l.getD n 0]).length := by
        rcases Nat.lt_or_ge (j + 1) (mg l n ++ [l.getD n 0]).length with h' | h'
        · exact h'
        · rw [List.getElem?_eq_none h'] at h2; cases h2
      simp only [List.length_append, List.length_singleton] at hj2
      have e1 : (mg l n)[j]? = some 47 := by rw [List.getElem?_append_left (by omega)] at h1; exact h1
      by_cases hlast : j + 1 < (mg l n).length
      · rw [List.getElem?_append_left hlast] at h2
        exact ih j e1 h2
      · have ej : j + 1 = (mg l n).length := by omega
        rw [List.getElem?_append_right (by omega), ej] at h2
        simp at h2
        have hl : (mg l n).getLast? = some 47 := by
          rw [List.getLast?_eq_getElem?, show (mg l n).length - 1 = j by omega]; exact e1
        cases n with
        | zero => simp [mg] at ej
        | succ m =>
          rw [mg_last] at hl
          simp [keep] at h
          simp only [List.getD_eq_getElem?_getD] at hl
          rcases h with h | h
          · exact h h2
          · exact h hl

/-- Where i stands after j bytes of what is left. -/
def At (l : List UInt8) (N i j : Nat) : Prop := i ≤ N ∧ (mg l i).length = j ∧ (i < N → keep l i = true)

theorem at_zero (l : List UInt8) (N : Nat) : At l N 0 0 := ⟨Nat.zero_le _, rfl, fun _ => by simp [keep]⟩
theorem at_lt {l : List UInt8} {N i j : Nat} (h : At l N i j) (hj : j < (mg l N).length) : i < N := by
  rcases Nat.lt_or_ge i N with h' | h'
  · exact h'
  · have e : i = N := Nat.le_antisymm h.1 h'
    have := h.2.1
    rw [e] at this
    omega
theorem at_byte {l : List UInt8} {N i j : Nat} (h : At l N i j) (hj : j < (mg l N).length) : (mg l N)[j]? = some (l.getD i 0) := by
  have hi := at_lt h hj
  obtain ⟨t, ht⟩ := mg_prefix l (i + 1) N (by omega)
  rw [ht, mg_yes (h.2.2 hi), List.append_assoc, List.getElem?_append_right (by have := h.2.1; omega), h.2.1]
  simp
theorem at_end {l : List UInt8} {N i j : Nat} (h : At l N i j) (hj : ¬ j < (mg l N).length) : i = N := by
  rcases Nat.lt_or_ge i N with h' | h'
  · exfalso
    obtain ⟨t, ht⟩ := mg_prefix l (i + 1) N (by omega)
    rw [mg_yes (h.2.2 h')] at ht
    have := congrArg List.length ht
    simp at this
    have := h.2.1
    omega
  · exact Nat.le_antisymm h.1 h'
/-- A byte that is no slash. -/
theorem at_plain {l : List UInt8} {N i j : Nat} (h : At l N i j) (hi : i < N) (hc : l.getD i 0 ≠ 47) : At l N (i + 1) (j + 1) := by
  refine ⟨hi, by rw [mg_yes (h.2.2 hi)]; simp; exact h.2.1, fun _ => ?_⟩
  simp only [List.getD_eq_getElem?_getD] at hc
  simp [keep, hc]

/-- Inside a run of slashes: j bytes are read, the byte before i is a slash. -/
def In (l : List UInt8) (N i j : Nat) : Prop := 0 < i ∧ i ≤ N ∧ (mg l i).length = j ∧ l.getD (i - 1) 0 = 47

theorem in_start {l : List UInt8} {N i j : Nat} (h : At l N i j) (hi : i < N) (hc : l.getD i 0 = 47) : In l N (i + 1) (j + 1) :=
  ⟨Nat.succ_pos _, hi, by rw [mg_yes (h.2.2 hi)]; simp; exact h.2.1, by simpa using hc⟩
theorem in_step {l : List UInt8} {N i j : Nat} (h : In l N i j) (hi : i < N) (hc : l.getD i 0 = 47) : In l N (i + 1) j := by
  have h4 := h.2.2.2
  have hk : keep l i = false := by
    have h0 : (i == 0) = false := by rw [beq_eq_false_iff_ne]; have := h.1; omega
    unfold keep
    rw [hc, h4, h0]; rfl
  exact ⟨Nat.succ_pos _, hi, by rw [mg_no hk]; exact h.2.2.1, by simpa using hc⟩
theorem in_end {l : List UInt8} {N i j : Nat} (h : In l N i j) (hc : i < N → l.getD i 0 ≠ 47) : At l N i j :=
  ⟨h.2.1, h.2.2.1, fun hi => by have := hc hi; unfold keep; rw [bne_iff_ne.2 this]; rfl⟩
end Go.Proofs.Qxb6601218a
