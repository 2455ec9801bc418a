import Derived.Test.Qxb6601218aRows
import Derived.WalkKit
import Derived.WalkSpells
import Derived.WalkLawsBesides
import Derived.Outline
import Derived.Deep.QuietTactic
import Derived.BigQuiet
import Derived.BigRegion
import Derived.Deep.DeepCutAuto
import Derived.Deep.LoopGhost
import Derived.Test.Qxb6601218aPat
namespace Go.Proofs.Qxb6601218a
open Go.RowKit

theorem hid {p : Prop} (h : p) : Hid p := h
theorem info4 : (Try.prog.info? 4).map (fun i => (i.zero, i.size, i.bytes)) = some (some (.bool false), 1, 1) := by kernel_rfl

/-- A row of bools of the call's own, all of it known. -/
def Bw (w : World) (B g n : Nat) (A : List Bool) : Prop := w.ownsRow B 4 1 (.slice (some ⟨g, 0, none⟩) n n) n (A.map .bool)

section
variable {w : World} {B g n : Nat} {A : List Bool}
theorem Bw.len (h : Bw w B g n A) : A.length = n := by have := h.1; simp at this; exact this
theorem Bw.cell (h : Bw w B g n A) (j : Nat) (hj : j < n) : w.cell? ⟨g, j, none⟩ = some (.bool (A.getD j false)) := by
  have hl : j < A.length := by rw [h.len]; exact hj
  rw [World.ownsRow.cellAt h j (by omega)]
  simp [hl]
theorem Bw.fr (h : Bw w B g n A) (j : Nat) : w.frozen? ⟨g, j, none⟩ = false := World.ownsRow.frozenAt h j
theorem Bw.set (h : Bw w B g n A) (j : Nat) (y : Bool) : Bw (w.setCell ⟨g, j, none⟩ (.bool y)) B g n (A.set j y) := by
  unfold Bw
  rw [List.map_set]
  exact (World.ownsRow.stored h j (.bool y)).1
theorem Bw.drew (h : Bw w B g n A) : Bw w.drew B g n A := h
end

theorem getD_set (A : List Bool) (i j : Nat) (y : Bool) (hi : i < A.length) : (A.set i y).getD j false = if i = j then y else A.getD j false := by
  by_cases e : i = j
  · subst e; simp [hi]
  · simp [e]

/-- Below i the row says Q, from i on it says P. -/
def Half (A : List Bool) (N i : Nat) (P Q : Nat → Prop) : Prop := ∀ j, j ≤ N → ((j < i → (A.getD j false = true ↔ Q j)) ∧ (i ≤ j → (A.getD j false = true ↔ P j)))

theorem Half.up {A : List Bool} {N i : Nat} {P Q : Nat → Prop} {y : Bool} (h : Half A N i P Q) (hl : A.length = N + 1) (hi : i ≤ N) (hy : y = true ↔ Q i) : Half (A.set i y) N (i + 1) P Q := by
  intro j hj
  rw [getD_set A i j y (by omega)]
  refine ⟨fun h1 => ?_, fun h1 => ?_⟩
  · by_cases e : i = j
    · subst e; rw [if_pos rfl]; exact hy
    · rw [if_neg e]; exact (h j hj).1 (by omega)
  · rw [if_neg (by omega)]; exact (h j hj).2 (by omega)
theorem Half.down {A : List Bool} {N i : Nat} {P Q : Nat → Prop} {y : Bool} (h : Half A N (i + 1) P Q) (hl : A.length = N + 1) (hi : i ≤ N) (hy : y = true ↔ P i) : Half (A.set i y) N i P Q := by
  intro j hj
  rw [getD_set A i j y (by omega)]
  refine ⟨fun h1 => ?_, fun h1 => ?_⟩
  · rw [if_neg (by omega)]; exact (h j hj).1 (by omega)
  · by_cases e : i = j
    · subst e; rw [if_pos rfl]; exact hy
    · rw [if_neg e]; exact (h j hj).2 (by omega)
end Go.Proofs.Qxb6601218a
