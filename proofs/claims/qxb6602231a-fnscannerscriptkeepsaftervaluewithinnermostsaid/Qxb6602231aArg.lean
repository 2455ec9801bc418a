import Derived.Test.Qxb6602231aMem
import Derived.ProofKit
import Derived.OpenShut
namespace Go.Proofs.Qxb6602231a
open Go.ChangeShapes Go.WideShapes Go.ChangeAt Go.RowKit

/-- WHAT THE WALK IS TOLD OF A SLICE OF INTEGERS THAT CAME IN: it is nil; or it leads to a row of 'cap' cells, the numbers 'zs' (the first 'len' are its elements, the rest its spare room), each fitting its kind. -/
def IsRow (k : IntKind) (w : World) (a : Option Addr) (len cap : Nat) (zs : List Int) : Prop :=
  (a = none ∧ len = 0 ∧ cap = 0 ∧ zs = []) ∨
  ∃ x, a = some x ∧ len ≤ cap ∧ cap ≤ maxLen ∧ zs.length = cap ∧ (∀ i, i < zs.length → w.cell? (x.add i) = some (.int k (zs.getD i 0))) ∧ ∀ n ∈ zs, (Lit.int k n).wf = true


/-- The shell's view of an argument gives the reader's view. -/
theorem rd_of_row {w : World} {a : Option Addr} {len cap : Nat} {zs : List Int} (h : IsRow .u8 w a len cap zs) :
    len ≤ maxLen ∧ (zs.take len).length = len ∧ (a = none → len = 0) ∧ Rd w a len (fun i => .int .u8 ((zs.take len).getD i 0)) ∧ ∀ i : Nat, 0 ≤ (zs.take len)[i]?.getD 0 ∧ (zs.take len)[i]?.getD 0 ≤ 255 := by
  rcases h with ⟨rfl, rfl, rfl, rfl⟩ | ⟨x, rfl, hlc, hm, hz, hcell, hwf⟩
  · exact ⟨by unfold maxLen; omega, rfl, fun _ => rfl, fun i hi => by omega, fun i => by simp⟩
  · refine ⟨by omega, by simp; omega, (fun h => by cases h), ?_, ?_⟩
    · intro i hi
      obtain ⟨b, off, spot⟩ := x
      have h1 := hcell i (by omega)
      have hs : spot = none := by simpa [Addr.add] using World.cell?_spot (hcell 0 (by omega))
      subst hs
      refine ⟨b, off, rfl, ?_⟩
      have e : (zs.take len).getD i 0 = zs.getD i 0 := by simp [hi]
      simp only [e]
      rw [add_plain] at h1
      exact h1
    · intro i
      by_cases hi : i < len
      · have e : (zs.take len)[i]?.getD 0 = zs[i]?.getD 0 := by simp [hi]
        rw [e]
        exact range_u8 hwf i
      · have e : (zs.take len)[i]?.getD 0 = 0 := by simp [List.getElem?_take, hi]
        rw [e]; omega

end Go.Proofs.Qxb6602231a
