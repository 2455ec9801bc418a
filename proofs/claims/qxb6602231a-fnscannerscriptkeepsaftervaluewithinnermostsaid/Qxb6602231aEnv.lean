import Derived.Test.Qxb6602231aMake
import Derived.Test.Qxb6602231aArg
namespace Go.Proofs.Qxb6602231a
open Go.RowKit

theorem hid {p : Prop} (h : p) : Hid p := h

theorem own_base {w : World} {B B' e n : Nat} {v : Value} {xs : List Value} (h : w.ownsRow B e 1 v n xs) (hB : B' ≤ B) : w.ownsRow B' e 1 v n xs := by
  refine ⟨h.1, ?_⟩
  rcases h.2 with h2 | ⟨g, cap, cur, rfl, hg, r⟩
  · exact .inl h2
  · exact .inr ⟨g, cap, cur, rfl, Nat.le_trans hB hg, r⟩

/-- What a law on the scanner holds beside the scanner: the text, a copy of it, the open list as it came in (all of them its own), and that nothing older has turned. -/
structure Env (w0 W : World) (sb tg wg : Nat) (oa : Option Addr) (tl n : Nat) (zs : List Int) (bs : List Bool) : Prop where
  tx : W.ownsRow w0.heap.size 5 1 (.slice (some ⟨tg, 0, none⟩) tl tl) tl (zs.map (.int .u8))
  wt : W.ownsRow w0.heap.size 5 1 (.slice (some ⟨wg, 0, none⟩) tl tl) tl (zs.map (.int .u8))
  op : W.ownsRow w0.heap.size 4 1 (.slice oa n n) n (bs.map .bool)
  tlt : tg < sb
  wlt : wg < sb
  olt : ∀ k, (Value.slice oa n n).ownBlock = some k → k < sb
  slt : w0.heap.size ≤ sb
  size : sb ≤ W.heap.size
  bel : Below w0.heap.size w0 W

section
variable {w0 W W' : World} {sb tg wg : Nat} {oa : Option Addr} {tl n : Nat} {zs : List Int} {bs : List Bool}

theorem Env.keep (h : Env w0 W sb tg wg oa tl n zs bs) (hK : Kp sb sb W W') : Env w0 W' sb tg wg oa tl n zs bs where
  tx := hK.rowBelow h.tx (by intro k hk; simp [Value.ownBlock] at hk; subst hk; exact ⟨h.tlt, Nat.ne_of_lt h.tlt⟩)
  wt := hK.rowBelow h.wt (by intro k hk; simp [Value.ownBlock] at hk; subst hk; exact ⟨h.wlt, Nat.ne_of_lt h.wlt⟩)
  op := hK.rowBelow h.op (fun k hk => ⟨h.olt k hk, Nat.ne_of_lt (h.olt k hk)⟩)
  tlt := h.tlt
  wlt := h.wlt
  olt := h.olt
  slt := h.slt
  size := Nat.le_trans h.size hK.size
  bel := h.bel.trans (hK.below h.slt h.slt (Nat.le_trans h.slt h.size))

theorem Env.below (h : Env w0 W sb tg wg oa tl n zs bs) (hb : Below W.heap.size W W') : Env w0 W' sb tg wg oa tl n zs bs where
  tx := own_below h.tx hb
  wt := own_below h.wt hb
  op := own_below h.op hb
  tlt := h.tlt
  wlt := h.wlt
  olt := h.olt
  slt := h.slt
  size := Nat.le_trans h.size hb.size
  bel := h.bel.trans (hb.mono (Nat.le_trans h.slt h.size))

theorem Env.text (h : Env w0 W sb tg wg oa tl n zs bs) (p : Nat) (hp : p < tl) : W.cell? ⟨tg, p, none⟩ = some (.int .u8 (zs.getD p 0)) := by
  have hl : p < zs.length := by have := h.tx.1; simp at this; omega
  rw [h.tx.cellAt p (by omega)]; simp [hl]
theorem Env.want (h : Env w0 W sb tg wg oa tl n zs bs) (p : Nat) (hp : p < tl) : W.cell? ⟨wg, p, none⟩ = some (.int .u8 (zs.getD p 0)) := by
  have hl : p < zs.length := by have := h.tx.1; simp at this; omega
  rw [h.wt.cellAt p (by omega)]; simp [hl]
theorem Env.rdText (h : Env w0 W sb tg wg oa tl n zs bs) : Rd W (some ⟨tg, 0, none⟩) tl (fun i => .int .u8 (zs.getD i 0)) := by
  refine rd_of_own h.tx ?_
  intro i hi
  have hl : i < zs.length := by have := h.tx.1; simp at this; omega
  simp [hl]
theorem Env.rdWant (h : Env w0 W sb tg wg oa tl n zs bs) : Rd W (some ⟨wg, 0, none⟩) tl (fun i => .int .u8 (zs.getD i 0)) := by
  refine rd_of_own h.wt ?_
  intro i hi
  have hl : i < zs.length := by have := h.tx.1; simp at this; omega
  simp [hl]
theorem Env.rdOpen (h : Env w0 W sb tg wg oa tl n zs bs) : Rd W oa n (fun i => .bool (bs.getD i false)) := by
  refine rd_of_own h.op ?_
  intro i hi
  have hl : i < bs.length := by have := h.op.1; simp at this; omega
  simp [hl]
theorem Env.lenT (h : Env w0 W sb tg wg oa tl n zs bs) : zs.length = tl := by have := h.tx.1; simp at this; exact this
theorem Env.lenO (h : Env w0 W sb tg wg oa tl n zs bs) : bs.length = n := by have := h.op.1; simp at this; exact this

/-- Out of the three clones and ZZMake. -/
theorem env_of {w w1 w2 w3 w4 : World} {oa : Option Addr} {tl n : Nat} {zs : List Int} {bs : List Bool}
    (own1 : w1.ownsRow w.heap.size 5 1 (.slice (some ⟨w.heap.size, 0, none⟩) tl tl) tl (zs.map (.int .u8))) (bel1 : Below w.heap.size w w1)
    (own2 : w2.ownsRow w1.heap.size 4 1 (.slice oa n n) n (bs.map .bool)) (bel2 : Below w1.heap.size w1 w2)
    (own3 : w3.ownsRow w2.heap.size 5 1 (.slice (some ⟨w2.heap.size, 0, none⟩) tl tl) tl (zs.map (.int .u8))) (bel3 : Below w2.heap.size w2 w3)
    (bel4 : Below w3.heap.size w3 w4) : Env w w4 w3.heap.size w.heap.size w2.heap.size oa tl n zs bs where
  tx := own_below (own_below (own_below own1 bel2) bel3) bel4
  wt := own_base (own_below own3 bel4) (Nat.le_trans bel1.size bel2.size)
  op := own_base (own_below (own_below own2 bel3) bel4) bel1.size
  tlt := Nat.lt_of_lt_of_le (lt_of_own own1) (Nat.le_trans bel2.size bel3.size)
  wlt := lt_of_own own3
  olt := fun k hk => Nat.lt_of_lt_of_le (own2.lt k hk).2 bel3.size
  slt := Nat.le_trans bel1.size (Nat.le_trans bel2.size bel3.size)
  size := bel4.size
  bel := ((bel1.trans (bel2.mono bel1.size)).trans (bel3.mono (Nat.le_trans bel1.size bel2.size))).trans (bel4.mono (Nat.le_trans bel1.size (Nat.le_trans bel2.size bel3.size)))
end
end Go.Proofs.Qxb6602231a
