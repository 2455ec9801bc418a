import Derived.Test.Qxb6602231aArg
import Derived.Deep.Grids
namespace Go.Proofs.Qxb6602231a
open Go.ChangeShapes Go.WideShapes Go.ChangeAt Go.RowKit

/-- An argument of type []bool, as the walk wants it. -/
def IsBools (w : World) (a : Option Addr) (len : Nat) (bs : List Bool) : Prop :=
  len ≤ maxLen ∧ bs.length = len ∧ (a = none → len = 0) ∧ Rd w a len (fun i => .bool (bs.getD i false))

theorem bools_of {H : Type} {enc : TypeId × Value → H} {W : World} {a : Option Addr} {len cap fuel base : Nat} {held : Bool} {x : DataW H × List MemPlace}
    (hf : DataW.trod enc Try.prog W base (fun _ => true) held fuel 30 (Value.slice a len cap).cells.toList = some x) : ∃ bs, IsBools W a len bs := by
  rcases Deep.open_bools Try.underlying30 Try.underlying4 (by kernel_rfl) hf with ⟨hcs, _⟩ | ⟨y, l, c, f, hcs, _, hl, hm, _, hcell⟩
  · simp [Value.cells] at hcs
    obtain ⟨rfl, rfl, rfl⟩ := hcs
    exact ⟨[], by unfold maxLen; omega, rfl, fun _ => rfl, fun i hi => by omega⟩
  · simp [Value.cells] at hcs
    obtain ⟨rfl, rfl, rfl⟩ := hcs
    refine ⟨(List.range len).map f, by omega, by simp, (fun h => by cases h), ?_⟩
    intro i hi
    obtain ⟨b, off, spot⟩ := y
    have hs : spot = none := by simpa [Addr.add] using World.cell?_spot (hcell 0 (by omega))
    subst hs
    have h1 := hcell i (by omega)
    rw [add_plain] at h1
    refine ⟨b, off, rfl, ?_⟩
    rw [h1]
    simp [hi]
end Go.Proofs.Qxb6602231a
