import Derived.Test.Qxb6602231aKeep
import Derived.Deep.QuietTactic
import Derived.BigQuiet
import Derived.BigRegion
namespace Go.Proofs.Qxb6602231a
open Go.RowKit

section
variable {w : World} {sb B : Nat} {tv : Value} {pos ex : Int} {v : Value} {af : Int} {bs : List Bool}

theorem list_len (h : Sc w sb B tv pos ex v bs af) : Calls Try.prog 31 #[.pointer (some ⟨sb, 3, none⟩)] w fun e w' => e = .returned (.int .i64 bs.length) ∧ w = w' := by
  have c4 := h.cell4
  clear h
  go_enter Try.func31, Try.ntmps31
  go_wp2
  go_ret
  exact ⟨rfl, rfl⟩

set_option maxHeartbeats 400000 in
theorem at_core (g cap m i : Nat) (w : World) (hi : i < 8 * m) (hm : m ≤ 1048576) (hc : w.cell? ⟨sb, 3, none⟩ = some (.slice (some ⟨g, 0, none⟩) m cap)) (hd : w.cell? ⟨g, i / 8, none⟩ = some (.int .u8 (byteOf bs (i / 8) : Int))) :
    Calls Try.prog 32 #[.pointer (some ⟨sb, 3, none⟩), .int .i64 i] w fun e w' => e = .returned (.bool (bs.getD i false)) ∧ ∃ q, w' = w.drewN q := by
  have h1 : (i : Int) / 8 < m := by omega
  have h2 : (0 : Int) ≤ (i : Int) % 8 ∧ (i : Int) % 8 < 8 := by omega
  have HE : Hid _ := bit_at bs i
  obtain ⟨x, hx⟩ : ∃ x : Int, x = (byteOf bs (i / 8) : Int) := ⟨_, rfl⟩
  rw [← hx] at hd HE
  clear hx
  obtain ⟨y, hy⟩ : ∃ y : Bool, y = bs.getD i false := ⟨_, rfl⟩
  rw [← hy] at HE ⊢
  clear hy
  go_enter Try.func32, Try.ntmps32
  go_wp2
  go_quiet (fail)
  go_wp2
  go_ret
  exact ⟨congrArg (fun b => Ending.returned (.bool b)) HE.out, nq, rfl⟩

theorem list_at (h : Sc w sb B tv pos ex v bs af) (i : Nat) (hi : i < bs.length) (hb : bs.length ≤ 1048576) :
    Calls Try.prog 32 #[.pointer (some ⟨sb, 3, none⟩), .int .i64 i] w fun e w' => e = .returned (.bool (bs.getD i false)) ∧ ∃ q, w' = w.drewN q := by
  obtain ⟨g, cap, rfl, hg, hc⟩ := Raw.form h (by omega)
  refine at_core g cap ((bs.length + 7) / 8) i w (by omega) (by omega) h.cell3 ?_
  rw [h.row.cellAt (i / 8) (by omega), pkn_at _ _ _ (by omega)]

set_option maxHeartbeats 400000 in
theorem list_set {n : Int} {m : Nat} {xs : List Value} {g cap : Nat} (h : Raw w sb B tv pos ex (.slice (some ⟨g, 0, none⟩) m cap) n af m xs) (i : Nat) (x : Int) (hi : i < 8 * m) (hm : m ≤ 1048576) (hx : xs[i / 8]? = some (.int .u8 x)) :
    Calls Try.prog 34 #[.pointer (some ⟨sb, 3, none⟩), .int .i64 i] w fun e w' => e = .returned (.tuple #[]) ∧
      Raw w' sb B tv pos ex (.slice (some ⟨g, 0, none⟩) m cap) n af m (xs.set (i / 8) (.int .u8 (bits .or .u8 x (2 ^ (i % 8) % 256)))) ∧ Kp B sb w w' := by
  have h1 : (i : Int) / 8 < m := by omega
  have h2 : (0 : Int) ≤ (i : Int) % 8 ∧ (i : Int) % 8 < 8 := by omega
  have c3 := h.cell3
  have hf := h.row.frozenAt (i / 8)
  have hd : w.cell? ⟨g, i / 8, none⟩ = some (.int .u8 x) := by rw [h.row.cellAt (i / 8) (by omega)]; exact hx
  have R : Hid _ := h.setRow (i / 8) (.int .u8 (bits .or .u8 x (2 ^ (i % 8) % 256)))
  clear h hx
  go_enter Try.func34, Try.ntmps34
  go_wp2
  go_region
  all_goals (go_end0; exact ⟨rfl, R.out.1.drew, R.out.2.drew⟩)
end
end Go.Proofs.Qxb6602231a
