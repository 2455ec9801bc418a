import Derived.Test.Qxb6602231aMem
import Derived.Test.Qxb6602231aBits
import Derived.Maps.AppendAt
import Derived.WalkSmall
namespace Go.Proofs.Qxb6602231a
open Go.RowKit

/-- What a call on the scanner at block sb keeps, the bytes of whose bit list lie in blocks from B on: every block that was there but sb itself and byte rows from B on. -/
structure Kp (B sb : Nat) (w w' : World) : Prop where
  os : w'.os = w.os
  tape : w'.tape = w.tape
  output : w'.output = w.output
  size : w.heap.size ≤ w'.heap.size
  block : ∀ k, k < w.heap.size → k ≠ sb → (k < B ∨ ∀ cur fr, w.heap[k]? ≠ some (.cells cur 5 fr)) → w'.heap[k]? = w.heap[k]?

theorem Kp.refl (B sb : Nat) (w : World) : Kp B sb w w := ⟨rfl, rfl, rfl, Nat.le_refl _, fun _ _ _ _ => rfl⟩
theorem Kp.trans {B sb : Nat} {a b c : World} (h : Kp B sb a b) (k : Kp B sb b c) : Kp B sb a c :=
  ⟨k.os.trans h.os, k.tape.trans h.tape, k.output.trans h.output, Nat.le_trans h.size k.size, fun i hi hs hB =>
    (k.block i (Nat.lt_of_lt_of_le hi h.size) hs (Or.elim hB Or.inl fun hn => Or.inr (by rw [h.block i hi hs hB]; exact hn))).trans (h.block i hi hs hB)⟩
theorem Kp.alloc {B sb : Nat} {a w : World} (h : Kp B sb a w) (o : Obj) : Kp B sb a (w.alloc o) :=
  h.trans ⟨rfl, rfl, rfl, by simp, fun k hk _ _ => Below.heap_alloc _ _ _ hk⟩
theorem Kp.drew {B sb : Nat} {a w : World} (h : Kp B sb a w) : Kp B sb a w.drew := ⟨h.os, h.tape, h.output, h.size, h.block⟩
theorem Kp.drewN {B sb : Nat} {a w : World} (h : Kp B sb a w) (n : Nat) : Kp B sb a (w.drewN n) := h.trans ⟨rfl, rfl, rfl, Nat.le_refl _, fun _ _ _ _ => rfl⟩
theorem Kp.setSb {B sb : Nat} {a w : World} (h : Kp B sb a w) (j : Nat) (u : Value) : Kp B sb a (w.setCell ⟨sb, j, none⟩ u) :=
  h.trans ⟨rfl, rfl, rfl, by simp [World.setCell], fun k _ hs _ => Below.heap_setCell _ _ _ _ hs⟩
/-- A store into a block that was not there when the call began. -/
theorem Kp.setNew {B sb : Nat} {a w : World} (h : Kp B sb a w) {g : Nat} (hg : a.heap.size ≤ g) (j : Nat) (u : Value) : Kp B sb a (w.setCell ⟨g, j, none⟩ u) :=
  ⟨h.os, h.tape, h.output, by simpa [World.setCell] using h.size, fun k hk hs hB => (Below.heap_setCell _ _ _ _ (show k ≠ g by omega)).trans (h.block k hk hs hB)⟩
theorem Kp.grown {B sb m : Nat} {a w w' : World} {v : Value} {xs : List Value} (h : Kp B sb a w) (hown : w.ownsRow B 5 1 v m xs) (hg : w.grownBy w' v.ownBlock) : Kp B sb a w' :=
  h.trans ⟨hg.os, hg.tape, hg.output, hg.size, fun k hk _ hB => hg.block k hk (by
    intro e
    rcases hown.2 with ⟨rfl, _⟩ | ⟨g, cap, cur, rfl, hb, hh, _⟩
    · simp [Value.ownBlock] at e
    · simp [Value.ownBlock] at e
      subst e
      rcases hB with hB | hB
      · omega
      · exact hB _ _ hh)⟩
theorem Kp.below {B sb B' : Nat} {w w' : World} (h : Kp B sb w w') (h1 : B' ≤ B) (h2 : B' ≤ sb) (h3 : B' ≤ w.heap.size) : Below B' w w' :=
  ⟨h.os, h.tape, h.output, h.size, fun k hk => h.block k (by omega) (by omega) (.inl (by omega))⟩
theorem Kp.heap {B sb g : Nat} {w w' : World} {o : Obj} (h : Kp B sb w w') (hg : w.heap[g]? = some o) (hs : g ≠ sb) (hB : g < B ∨ ∀ cur fr, o ≠ .cells cur 5 fr) : w'.heap[g]? = some o := by
  rw [h.block g (lt_of_block hg) hs (Or.elim hB Or.inl fun hn => Or.inr fun cur fr => by rw [hg]; intro e; exact hn cur fr (Option.some.inj e))]
  exact hg

/-- An owned row of another element type stays. -/
theorem Kp.row {B sb B0 e n : Nat} {w w' : World} {v : Value} {xs : List Value} (h : Kp B sb w w') (hr : w.ownsRow B0 e 1 v n xs) (he : e ≠ 5) (hs : ∀ k, v.ownBlock = some k → k ≠ sb) : w'.ownsRow B0 e 1 v n xs := by
  refine ⟨hr.1, ?_⟩
  rcases hr.2 with h2 | ⟨g, cap, cur, rfl, hb, hh, r⟩
  · exact .inl h2
  · exact .inr ⟨g, cap, cur, rfl, hb, h.heap hh (hs g rfl) (.inr (by simp [he])), r⟩
/-- An owned row below B stays. -/
theorem Kp.rowBelow {B sb B0 e n : Nat} {w w' : World} {v : Value} {xs : List Value} (h : Kp B sb w w') (hr : w.ownsRow B0 e 1 v n xs) (hs : ∀ k, v.ownBlock = some k → k < B ∧ k ≠ sb) : w'.ownsRow B0 e 1 v n xs := by
  refine ⟨hr.1, ?_⟩
  rcases hr.2 with h2 | ⟨g, cap, cur, rfl, hb, hh, r⟩
  · exact .inl h2
  · exact .inr ⟨g, cap, cur, rfl, hb, h.heap hh (hs g rfl).2 (.inl (hs g rfl).1), r⟩

/-- The scanner's block, field by field, and the row of its bit list's bytes. -/
structure Raw (w : World) (sb B : Nat) (tv : Value) (pos ex : Int) (v : Value) (n : Int) (af : Int) (m : Nat) (xs : List Value) : Prop where
  blk : w.heap[sb]? = some (.cells #[tv, .int .i64 pos, .int .u8 ex, v, .int .i64 n, .int .u8 af] 56 (0, 0))
  row : w.ownsRow B 5 1 v m xs
  base : B ≤ w.heap.size

section
variable {w : World} {sb B : Nat} {tv : Value} {pos ex : Int} {v : Value} {n : Int} {af : Int} {m : Nat} {xs : List Value}

theorem Raw.frozen (h : Raw w sb B tv pos ex v n af m xs) (j : Nat) : w.frozen? ⟨sb, j, none⟩ = false := frozen_of_row w sb j _ _ h.blk
theorem Raw.cell0 (h : Raw w sb B tv pos ex v n af m xs) : w.cell? ⟨sb, 0, none⟩ = some tv := by rw [cell_of_row w sb 0 _ _ _ h.blk]; rfl
theorem Raw.cell1 (h : Raw w sb B tv pos ex v n af m xs) : w.cell? ⟨sb, 1, none⟩ = some (.int .i64 pos) := by rw [cell_of_row w sb 1 _ _ _ h.blk]; rfl
theorem Raw.cell2 (h : Raw w sb B tv pos ex v n af m xs) : w.cell? ⟨sb, 2, none⟩ = some (.int .u8 ex) := by rw [cell_of_row w sb 2 _ _ _ h.blk]; rfl
theorem Raw.cell3 (h : Raw w sb B tv pos ex v n af m xs) : w.cell? ⟨sb, 3, none⟩ = some v := by rw [cell_of_row w sb 3 _ _ _ h.blk]; rfl
theorem Raw.cell4 (h : Raw w sb B tv pos ex v n af m xs) : w.cell? ⟨sb, 4, none⟩ = some (.int .i64 n) := by rw [cell_of_row w sb 4 _ _ _ h.blk]; rfl
theorem Raw.cell5 (h : Raw w sb B tv pos ex v n af m xs) : w.cell? ⟨sb, 5, none⟩ = some (.int .u8 af) := by rw [cell_of_row w sb 5 _ _ _ h.blk]; rfl

/-- The row's block is not the scanner's. -/
theorem Raw.apart (h : Raw w sb B tv pos ex v n af m xs) {v' : Value} {m' : Nat} {xs' : List Value} (h' : w.ownsRow B 5 1 v' m' xs') : v'.ownBlock ≠ some sb := by
  intro e
  rcases h'.2 with ⟨rfl, _⟩ | ⟨g, cap, cur, rfl, hb, hh, _⟩
  · simp [Value.ownBlock] at e
  · simp [Value.ownBlock] at e
    subst e
    rw [h.blk] at hh
    simp at hh

theorem Raw.alloc (h : Raw w sb B tv pos ex v n af m xs) (o : Obj) : Raw (w.alloc o) sb B tv pos ex v n af m xs :=
  ⟨by rw [Below.heap_alloc _ _ _ (lt_of_block h.blk)]; exact h.blk, h.row.alloc o, by have := h.base; simp; omega⟩
theorem Raw.drew (h : Raw w sb B tv pos ex v n af m xs) : Raw w.drew sb B tv pos ex v n af m xs := ⟨h.blk, h.row, h.base⟩
theorem Raw.drewN (h : Raw w sb B tv pos ex v n af m xs) (q : Nat) : Raw (w.drewN q) sb B tv pos ex v n af m xs := ⟨h.blk, h.row, h.base⟩
theorem Raw.grown (h : Raw w sb B tv pos ex v n af m xs) {w' : World} (hg : w.grownBy w' v.ownBlock) : w'.heap[sb]? = some (.cells #[tv, .int .i64 pos, .int .u8 ex, v, .int .i64 n, .int .u8 af] 56 (0, 0)) := by
  rw [hg.block sb (lt_of_block h.blk) (h.apart h.row).symm]
  exact h.blk
theorem Raw.set1 (h : Raw w sb B tv pos ex v n af m xs) (q : Int) : Raw (w.setCell ⟨sb, 1, none⟩ (.int .i64 q)) sb B tv q ex v n af m xs :=
  ⟨heap_setCell_same w sb 1 _ _ _ h.blk, ownsRow_setCell_other h.row (h.apart h.row) _, by simpa [World.setCell] using h.base⟩
theorem Raw.set2 (h : Raw w sb B tv pos ex v n af m xs) (q : Int) : Raw (w.setCell ⟨sb, 2, none⟩ (.int .u8 q)) sb B tv pos q v n af m xs :=
  ⟨heap_setCell_same w sb 2 _ _ _ h.blk, ownsRow_setCell_other h.row (h.apart h.row) _, by simpa [World.setCell] using h.base⟩
theorem Raw.set3 (h : Raw w sb B tv pos ex v n af m xs) {v' : Value} {m' : Nat} {xs' : List Value} (h' : w.ownsRow B 5 1 v' m' xs') : Raw (w.setCell ⟨sb, 3, none⟩ v') sb B tv pos ex v' n af m' xs' :=
  ⟨heap_setCell_same w sb 3 _ _ _ h.blk, ownsRow_setCell_other h' (h.apart h') _, by simpa [World.setCell] using h.base⟩
theorem Raw.set4 (h : Raw w sb B tv pos ex v n af m xs) (q : Int) : Raw (w.setCell ⟨sb, 4, none⟩ (.int .i64 q)) sb B tv pos ex v q af m xs :=
  ⟨heap_setCell_same w sb 4 _ _ _ h.blk, ownsRow_setCell_other h.row (h.apart h.row) _, by simpa [World.setCell] using h.base⟩
theorem Raw.set5 (h : Raw w sb B tv pos ex v n af m xs) (q : Int) : Raw (w.setCell ⟨sb, 5, none⟩ (.int .u8 q)) sb B tv pos ex v n q m xs :=
  ⟨heap_setCell_same w sb 5 _ _ _ h.blk, ownsRow_setCell_other h.row (h.apart h.row) _, by simpa [World.setCell] using h.base⟩
theorem Raw.setNew (h : Raw w sb B tv pos ex v n af m xs) {g : Nat} (h1 : g ≠ sb) (h2 : v.ownBlock ≠ some g) (j : Nat) (u : Value) : Raw (w.setCell ⟨g, j, none⟩ u) sb B tv pos ex v n af m xs :=
  ⟨by rw [Below.heap_setCell _ _ _ _ (Ne.symm h1)]; exact h.blk, ownsRow_setCell_other h.row h2 _, by simpa [World.setCell] using h.base⟩
theorem Raw.form (h : Raw w sb B tv pos ex v n af m xs) (hm : 0 < m) : ∃ g cap, v = .slice (some ⟨g, 0, none⟩) m cap ∧ g ≠ sb ∧ m ≤ cap := by
  rcases h.row.2 with ⟨_, h0⟩ | ⟨g, cap, cur, rfl, hb, hh, hc, _⟩
  · omega
  · exact ⟨g, cap, rfl, fun e => h.apart h.row (by simp [Value.ownBlock, e]), hc⟩
end

theorem Raw.setRow {w : World} {sb B g cap : Nat} {tv : Value} {pos ex n af : Int} {m : Nat} {xs : List Value} (h : Raw w sb B tv pos ex (.slice (some ⟨g, 0, none⟩) m cap) n af m xs) (j : Nat) (u : Value) :
    Raw (w.setCell ⟨g, j, none⟩ u) sb B tv pos ex (.slice (some ⟨g, 0, none⟩) m cap) n af m (xs.set j u) ∧ Kp B sb w (w.setCell ⟨g, j, none⟩ u) := by
  have hs := h.row.stored j u
  refine ⟨⟨?_, hs.1, by simpa [World.setCell] using h.base⟩, (Kp.refl _ _ _).grown h.row hs.2⟩
  rw [Below.heap_setCell _ _ _ _ (fun e => h.apart h.row (by simp [Value.ownBlock, e]))]
  exact h.blk

/-- The scanner at block sb: its fields, and the open list bs, packed. -/
def Sc (w : World) (sb B : Nat) (tv : Value) (pos ex : Int) (v : Value) (bs : List Bool) (af : Int) : Prop :=
  Raw w sb B tv pos ex v bs.length af ((bs.length + 7) / 8) (pkn bs ((bs.length + 7) / 8))
end Go.Proofs.Qxb6602231a
