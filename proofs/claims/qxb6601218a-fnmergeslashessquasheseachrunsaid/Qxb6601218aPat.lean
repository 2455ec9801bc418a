import Derived.WalkKit
namespace Go.Proofs.Qxb6601218a

/-! THE PLAIN PART: no Go in sight. A pattern's tokens: 256: any run; 257: any run without a slash; c: the byte c. 'f q': the byte of the name at q. -/

def Rt (f : Nat → Nat) (t i j : Nat) : Prop :=
  if t = 256 then i ≤ j else if t = 257 then i ≤ j ∧ ∀ q, i ≤ q → q < j → f q ≠ 47 else j = i + 1 ∧ f i = t

/-- The bytes from i to j match the tokens. -/
def Rs (f : Nat → Nat) : List Nat → Nat → Nat → Prop
  | [], i, j => i = j
  | t :: ts, i, j => ∃ m, Rt f t i m ∧ Rs f ts m j

theorem Rt_le {f : Nat → Nat} {t i j : Nat} (h : Rt f t i j) : i ≤ j := by
  unfold Rt at h
  split at h
  · exact h
  · split at h
    · exact h.1
    · omega
theorem Rs_le {f : Nat → Nat} {ts : List Nat} : ∀ {i j : Nat}, Rs f ts i j → i ≤ j := by
  induction ts with
  | nil => intro i j h; exact Nat.le_of_eq h
  | cons t ts ih =>
    intro i j h
    obtain ⟨m, h1, h2⟩ := h
    exact Nat.le_trans (Rt_le h1) (ih h2)

theorem Rs_append (f : Nat → Nat) (a b : List Nat) : ∀ i j, Rs f (a ++ b) i j ↔ ∃ m, Rs f a i m ∧ Rs f b m j := by
  induction a with
  | nil => intro i j; simp [Rs]
  | cons t ts ih =>
    intro i j
    constructor
    · rintro ⟨m, h1, h2⟩
      obtain ⟨q, h3, h4⟩ := (ih m j).1 h2
      exact ⟨q, ⟨m, h1, h3⟩, h4⟩
    · rintro ⟨q, ⟨m, h1, h3⟩, h4⟩
      exact ⟨m, h1, (ih m j).2 ⟨q, h3, h4⟩⟩

theorem Rs_snoc (f : Nat → Nat) (a : List Nat) (t i j : Nat) : Rs f (a ++ [t]) i j ↔ ∃ m, Rs f a i m ∧ Rt f t m j := by
  rw [Rs_append]
  constructor
  · rintro ⟨m, h1, q, h2, h3⟩
    have e : q = j := h3
    subst e
    exact ⟨m, h1, h2⟩
  · rintro ⟨m, h1, h2⟩
    exact ⟨m, h1, j, h2, rfl⟩

/-! Reading the pattern from the left: P: what has been read so far matches the name up to i. -/

theorem snoc_any (f : Nat → Nat) (a : List Nat) (j : Nat) : Rs f (a ++ [256]) 0 j ↔ ∃ m, m ≤ j ∧ Rs f a 0 m := by
  rw [Rs_snoc]
  constructor
  · rintro ⟨m, h1, h2⟩; exact ⟨m, Rt_le h2, h1⟩
  · rintro ⟨m, h1, h2⟩; exact ⟨m, h2, by simp [Rt]; exact h1⟩
theorem snoc_run (f : Nat → Nat) (a : List Nat) (j : Nat) : Rs f (a ++ [257]) 0 j ↔ ∃ m, m ≤ j ∧ Rs f a 0 m ∧ ∀ q, m ≤ q → q < j → f q ≠ 47 := by
  rw [Rs_snoc]
  constructor
  · rintro ⟨m, h1, h2⟩
    simp [Rt] at h2
    exact ⟨m, h2.1, h1, h2.2⟩
  · rintro ⟨m, h1, h2, h3⟩; exact ⟨m, h2, by simp [Rt]; exact ⟨h1, h3⟩⟩
theorem snoc_byte (f : Nat → Nat) (a : List Nat) (c j : Nat) (hc : c < 256) : Rs f (a ++ [c]) 0 j ↔ ∃ m, j = m + 1 ∧ Rs f a 0 m ∧ f m = c := by
  have h1 : c ≠ 256 := by omega
  have h2 : c ≠ 257 := by omega
  rw [Rs_snoc]
  constructor
  · rintro ⟨m, ha, hb⟩
    simp only [Rt, h1, h2, if_false] at hb
    exact ⟨m, hb.1, ha, hb.2⟩
  · rintro ⟨m, ha, hb, hc'⟩; exact ⟨m, hb, by simp only [Rt, h1, h2, if_false]; exact ⟨ha, hc'⟩⟩

theorem any_step (f : Nat → Nat) (a : List Nat) (k : Nat) : Rs f (a ++ [256]) 0 (k + 1) ↔ (Rs f a 0 (k + 1) ∨ Rs f (a ++ [256]) 0 k) := by
  rw [snoc_any, snoc_any]
  constructor
  · rintro ⟨m, h1, h2⟩
    by_cases e : m = k + 1
    · subst e; exact .inl h2
    · exact .inr ⟨m, by omega, h2⟩
  · rintro (h | ⟨m, h1, h2⟩)
    · exact ⟨k + 1, Nat.le_refl _, h⟩
    · exact ⟨m, by omega, h2⟩
theorem any_zero (f : Nat → Nat) (a : List Nat) : Rs f (a ++ [256]) 0 0 ↔ Rs f a 0 0 := by
  rw [snoc_any]
  constructor
  · rintro ⟨m, h1, h2⟩; obtain rfl : m = 0 := by omega
    exact h2
  · intro h; exact ⟨0, Nat.le_refl _, h⟩
theorem run_step (f : Nat → Nat) (a : List Nat) (k : Nat) : Rs f (a ++ [257]) 0 (k + 1) ↔ (Rs f a 0 (k + 1) ∨ (Rs f (a ++ [257]) 0 k ∧ f k ≠ 47)) := by
  rw [snoc_run, snoc_run]
  constructor
  · rintro ⟨m, h1, h2, h3⟩
    by_cases e : m = k + 1
    · subst e; exact .inl h2
    · exact .inr ⟨⟨m, by omega, h2, fun q hq1 hq2 => h3 q hq1 (by omega)⟩, h3 k (by omega) (by omega)⟩
  · rintro (h | ⟨⟨m, h1, h2, h3⟩, h4⟩)
    · exact ⟨k + 1, Nat.le_refl _, h, fun q hq1 hq2 => by omega⟩
    · refine ⟨m, by omega, h2, fun q hq1 hq2 => ?_⟩
      by_cases e : q = k
      · subst e; exact h4
      · exact h3 q hq1 (by omega)
theorem run_zero (f : Nat → Nat) (a : List Nat) : Rs f (a ++ [257]) 0 0 ↔ Rs f a 0 0 := by
  rw [snoc_run]
  constructor
  · rintro ⟨m, h1, h2, _⟩; obtain rfl : m = 0 := by omega
    exact h2
  · intro h; exact ⟨0, Nat.le_refl _, h, fun q hq1 hq2 => by omega⟩
theorem byte_step (f : Nat → Nat) (a : List Nat) (c k : Nat) (hc : c < 256) : Rs f (a ++ [c]) 0 (k + 1) ↔ (Rs f a 0 k ∧ f k = c) := by
  rw [snoc_byte f a c _ hc]
  constructor
  · rintro ⟨m, h1, h2, h3⟩; obtain rfl : m = k := by omega
    exact ⟨h2, h3⟩
  · rintro ⟨h2, h3⟩; exact ⟨k, rfl, h2, h3⟩
theorem byte_zero (f : Nat → Nat) (a : List Nat) (c : Nat) (hc : c < 256) : ¬ Rs f (a ++ [c]) 0 0 := by
  rw [snoc_byte f a c _ hc]
  rintro ⟨m, h1, _⟩
  omega

/-- The tokens of a pattern, read from the left as Match reads it. -/
def toks : List UInt8 → List Nat
  | [] => []
  | [c] => [if c = 42 then 257 else c.toNat]
  | c :: d :: r => if c = 42 then (if d = 42 then 256 :: toks r else 257 :: toks (d :: r)) else c.toNat :: toks (d :: r)

theorem toks_two (r : List UInt8) : toks (42 :: 42 :: r) = 256 :: toks r := by simp [toks]
theorem toks_byte (c : UInt8) (r : List UInt8) (h : c ≠ 42) : toks (c :: r) = c.toNat :: toks r := by
  cases r <;> simp [toks, h]
theorem toks_one (r : List UInt8) (h : ∀ d r', r = d :: r' → d ≠ 42) : toks (42 :: r) = 257 :: toks r := by
  cases r with
  | nil => simp [toks]
  | cons d r' => simp [toks, h d r' rfl]

/-! Reading the pattern from the right: a maximal run of stars at once. -/

theorem byte_front (f : Nat → Nat) (c : UInt8) (X : List UInt8) (hc : c ≠ 42) (i N : Nat) : Rs f (toks (c :: X)) i N ↔ (f i = c.toNat ∧ Rs f (toks X) (i + 1) N) := by
  rw [toks_byte c X hc]
  have hlt := c.toNat_lt
  have h1 : c.toNat ≠ 256 := by omega
  have h2 : c.toNat ≠ 257 := by omega
  constructor
  · rintro ⟨m, ha, hb⟩
    simp only [Rt, h1, h2, if_false] at ha
    obtain ⟨rfl, h3⟩ := ha
    exact ⟨h3, hb⟩
  · rintro ⟨ha, hb⟩
    exact ⟨i + 1, by simp only [Rt, h1, h2, if_false]; exact ⟨trivial, ha⟩, hb⟩

theorem one_front (f : Nat → Nat) (X : List UInt8) (h : ∀ d r', X = d :: r' → d ≠ 42) (i N : Nat) : Rs f (toks (42 :: X)) i N ↔ ∃ m, i ≤ m ∧ (∀ q, i ≤ q → q < m → f q ≠ 47) ∧ Rs f (toks X) m N := by
  rw [toks_one X h]
  constructor
  · rintro ⟨m, ha, hb⟩
    simp [Rt] at ha
    exact ⟨m, ha.1, ha.2, hb⟩
  · rintro ⟨m, h1, h2, h3⟩
    exact ⟨m, by simp [Rt]; exact ⟨h1, h2⟩, h3⟩

theorem two_front (f : Nat → Nat) (X : List UInt8) (i N : Nat) : Rs f (toks (42 :: 42 :: X)) i N ↔ ∃ m, i ≤ m ∧ Rs f (toks X) m N := by
  rw [toks_two X]
  constructor
  · rintro ⟨m, ha, hb⟩
    exact ⟨m, Rt_le ha, hb⟩
  · rintro ⟨m, h1, h3⟩
    exact ⟨m, by simp [Rt]; exact h1, h3⟩

/-- Two stars or more: any run. -/
theorem many_front (f : Nat → Nat) (X : List UInt8) (h : ∀ d r', X = d :: r' → d ≠ 42) (N : Nat) : ∀ (r i : Nat), Rs f (toks (List.replicate (r + 2) 42 ++ X)) i N ↔ ∃ m, i ≤ m ∧ Rs f (toks X) m N
  | 0, i => by
    show Rs f (toks (42 :: 42 :: X)) i N ↔ _
    exact two_front f X i N
  | 1, i => by
    show Rs f (toks (42 :: 42 :: 42 :: X)) i N ↔ _
    rw [two_front]
    constructor
    · rintro ⟨m, h1, h2⟩
      obtain ⟨q, h3, _, h4⟩ := (one_front f X h m N).1 h2
      exact ⟨q, by omega, h4⟩
    · rintro ⟨m, h1, h2⟩
      exact ⟨m, h1, (one_front f X h m N).2 ⟨m, Nat.le_refl _, fun q hq1 hq2 => by omega, h2⟩⟩
  | r + 2, i => by
    show Rs f (toks (42 :: 42 :: (List.replicate (r + 2) 42 ++ X))) i N ↔ _
    rw [two_front]
    constructor
    · rintro ⟨m, h1, h2⟩
      obtain ⟨q, h3, h4⟩ := (many_front f X h N r m).1 h2
      exact ⟨q, by omega, h4⟩
    · rintro ⟨m, h1, h2⟩
      exact ⟨m, h1, (many_front f X h N r m).2 ⟨m, Nat.le_refl _, h2⟩⟩

/-- A maximal run of r stars in front of X: what the model says of it. -/
theorem stars_front (f : Nat → Nat) (X : List UInt8) (h : ∀ d r', X = d :: r' → d ≠ 42) (N r i : Nat) (hr : 1 ≤ r) :
    Rs f (toks (List.replicate r 42 ++ X)) i N ↔ ∃ m, i ≤ m ∧ (2 ≤ r ∨ ∀ q, i ≤ q → q < m → f q ≠ 47) ∧ Rs f (toks X) m N := by
  by_cases h1 : r = 1
  · subst h1
    show Rs f (toks (42 :: X)) i N ↔ _
    rw [one_front f X h]
    constructor
    · rintro ⟨m, a, b, c⟩; exact ⟨m, a, .inr b, c⟩
    · rintro ⟨m, a, b, c⟩
      rcases b with b | b
      · omega
      · exact ⟨m, a, b, c⟩
  · obtain ⟨q, rfl⟩ : ∃ q, r = q + 2 := ⟨r - 2, by omega⟩
    rw [many_front f X h N]
    constructor
    · rintro ⟨m, a, c⟩; exact ⟨m, a, .inl (by omega), c⟩
    · rintro ⟨m, a, _, c⟩; exact ⟨m, a, c⟩

/-- What the model's loop over the name reckons, from the right. -/
theorem stars_step (f : Nat → Nat) (X : List UInt8) (h : ∀ d r', X = d :: r' → d ≠ 42) (N r i : Nat) (hr : 1 ≤ r) :
    Rs f (toks (List.replicate r 42 ++ X)) i N ↔ (Rs f (toks X) i N ∨ ((2 ≤ r ∨ f i ≠ 47) ∧ Rs f (toks (List.replicate r 42 ++ X)) (i + 1) N)) := by
  rw [stars_front f X h N r i hr, stars_front f X h N r (i + 1) hr]
  constructor
  · rintro ⟨m, a, b, c⟩
    by_cases e : i = m
    · subst e; exact .inl c
    · refine .inr ⟨?_, m, by omega, ?_, c⟩
      · rcases b with b | b
        · exact .inl b
        · exact .inr (b i (Nat.le_refl _) (by omega))
      · rcases b with b | b
        · exact .inl b
        · exact .inr fun q hq1 hq2 => b q (by omega) hq2
  · rintro (c | ⟨b, m, a, b2, c⟩)
    · exact ⟨i, Nat.le_refl _, .inr (fun q hq1 hq2 => by omega), c⟩
    · refine ⟨m, by omega, ?_, c⟩
      rcases b2 with b2 | b2
      · exact .inl b2
      · rcases b with b | b
        · exact .inl b
        · refine .inr fun q hq1 hq2 => ?_
          by_cases e : q = i
          · subst e; exact b
          · exact b2 q (by omega) hq2
theorem stars_last (f : Nat → Nat) (X : List UInt8) (h : ∀ d r', X = d :: r' → d ≠ 42) (N r : Nat) (hr : 1 ≤ r) :
    Rs f (toks (List.replicate r 42 ++ X)) N N ↔ Rs f (toks X) N N := by
  rw [stars_front f X h N r N hr]
  constructor
  · rintro ⟨m, a, _, c⟩
    have := Rs_le c
    obtain rfl : m = N := by omega
    exact c
  · intro c; exact ⟨N, Nat.le_refl _, .inr (fun q hq1 hq2 => by omega), c⟩
theorem byte_last (f : Nat → Nat) (c : UInt8) (X : List UInt8) (hc : c ≠ 42) (N : Nat) : ¬ Rs f (toks (c :: X)) N N := by
  rw [byte_front f c X hc]
  rintro ⟨_, h⟩
  have := Rs_le h
  omega
end Go.Proofs.Qxb6601218a
