import Derived.Test.Qxb6602231aRestoreLaw
namespace Go.Proofs.Qxb6602231a
open Go.RowKit

/-- What the law on scripts holds beside the scanner: the text, a copy of it, the script (its own copies), and that nothing older has turned. -/
structure Env2 (w0 W : World) (sb : Nat) (ta wa oa : Option Addr) (tl ol : Nat) (zs os : List Int) : Prop where
  tx : W.ownsRow w0.heap.size 5 1 (.slice ta tl tl) tl (zs.map (.int .u8))
  wt : W.ownsRow w0.heap.size 5 1 (.slice wa tl tl) tl (zs.map (.int .u8))
  op : W.ownsRow w0.heap.size 5 1 (.slice oa ol ol) ol (os.map (.int .u8))
  tlt : ∀ k, (Value.slice ta tl tl).ownBlock = some k → k < sb
  wlt : ∀ k, (Value.slice wa tl tl).ownBlock = some k → k < sb
  olt : ∀ k, (Value.slice oa ol ol).ownBlock = some k → k < sb
  slt : w0.heap.size ≤ sb
  size : sb ≤ W.heap.size
  bel : Below w0.heap.size w0 W

/-- An owned row is kept where its block is. -/
theorem own_block {w w' : World} {B e n : Nat} {v : Value} {xs : List Value} (h : w.ownsRow B e 1 v n xs) (hb : ∀ k, v.ownBlock = some k → w'.heap[k]? = w.heap[k]?) : w'.ownsRow B e 1 v n xs := by
  refine ⟨h.1, ?_⟩
  rcases h.2 with h2 | ⟨g, cap, cur, rfl, hg, hh, r⟩
  · exact .inl h2
  · exact .inr ⟨g, cap, cur, rfl, hg, by rw [hb g rfl]; exact hh, r⟩

section
variable {w0 W W' : World} {sb : Nat} {ta wa oa : Option Addr} {tl ol : Nat} {zs os : List Int}

theorem Env2.keepAll (h : Env2 w0 W sb ta wa oa tl ol zs os) (hs : W.heap.size ≤ W'.heap.size) (hb : ∀ k, k < sb → W'.heap[k]? = W.heap[k]?) (hbel : Below w0.heap.size w0 W') : Env2 w0 W' sb ta wa oa tl ol zs os where
  tx := own_block h.tx fun k hk => hb k (h.tlt k hk)
  wt := own_block h.wt fun k hk => hb k (h.wlt k hk)
  op := own_block h.op fun k hk => hb k (h.olt k hk)
  tlt := h.tlt
  wlt := h.wlt
  olt := h.olt
  slt := h.slt
  size := Nat.le_trans h.size hs
  bel := hbel

theorem Env2.keep (h : Env2 w0 W sb ta wa oa tl ol zs os) (hK : Kp sb sb W W') : Env2 w0 W' sb ta wa oa tl ol zs os :=
  h.keepAll hK.size (fun k hk => hK.block k (Nat.lt_of_lt_of_le hk h.size) (Nat.ne_of_lt hk) (.inl hk)) (h.bel.trans (hK.below h.slt h.slt (Nat.le_trans h.slt h.size)))
theorem Env2.below (h : Env2 w0 W sb ta wa oa tl ol zs os) (hb : Below W.heap.size W W') : Env2 w0 W' sb ta wa oa tl ol zs os :=
  h.keepAll hb.size (fun k hk => hb.block k (Nat.lt_of_lt_of_le hk h.size)) (h.bel.trans (hb.mono (Nat.le_trans h.slt h.size)))
theorem Env2.grown {kb : Nat} (h : Env2 w0 W sb ta wa oa tl ol zs os) (hg : W.grownBy W' (some kb)) (hk : sb ≤ kb) : Env2 w0 W' sb ta wa oa tl ol zs os :=
  h.keepAll hg.size (fun k hk' => hg.block k (Nat.lt_of_lt_of_le hk' h.size) (by intro e; simp at e; omega))
    (h.bel.trans ((Below.refl _ _).grown hg (Nat.le_trans h.slt h.size) (by intro k hk'; simp at hk'; have := h.slt; omega)))
theorem Env2.setCell (h : Env2 w0 W sb ta wa oa tl ol zs os) {g : Nat} (hg : sb ≤ g) (j : Nat) (u : Value) : Env2 w0 (W.setCell ⟨g, j, none⟩ u) sb ta wa oa tl ol zs os :=
  h.keepAll (by simp [World.setCell]) (fun k hk => Below.heap_setCell _ _ _ _ (show k ≠ g by omega)) (h.bel.setCell (Nat.le_trans h.slt hg) _)
theorem Env2.alloc (h : Env2 w0 W sb ta wa oa tl ol zs os) (o : Obj) : Env2 w0 (W.alloc o) sb ta wa oa tl ol zs os :=
  h.below ((Below.refl _ _).alloc (Nat.le_refl _) _)

theorem own_u8 {B n : Nat} {a : Option Addr} {ys : List Int} (h : W.ownsRow B 5 1 (.slice a n n) n (ys.map (.int .u8))) : ys.length = n ∧ Rd W a n (fun i => .int .u8 (ys.getD i 0)) := by
  have hl : ys.length = n := by have := h.1; simp at this; exact this
  refine ⟨hl, rd_of_own h ?_⟩
  intro i hi
  have : i < ys.length := by omega
  simp [this]

/-- Out of the three clones and ZZMake. -/
theorem env2_of {w w1 w2 w3 w4 : World}
    (own1 : w1.ownsRow w.heap.size 5 1 (.slice ta tl tl) tl (zs.map (.int .u8))) (bel1 : Below w.heap.size w w1)
    (own2 : w2.ownsRow w1.heap.size 5 1 (.slice oa ol ol) ol (os.map (.int .u8))) (bel2 : Below w1.heap.size w1 w2)
    (own3 : w3.ownsRow w2.heap.size 5 1 (.slice wa tl tl) tl (zs.map (.int .u8))) (bel3 : Below w2.heap.size w2 w3)
    (bel4 : Below w3.heap.size w3 w4) : Env2 w w4 w3.heap.size ta wa oa tl ol zs os where
  tx := own_below (own_below (own_below own1 bel2) bel3) bel4
  wt := own_base (own_below own3 bel4) (Nat.le_trans bel1.size bel2.size)
  op := own_base (own_below (own_below own2 bel3) bel4) bel1.size
  tlt := fun k hk => Nat.lt_of_lt_of_le (own1.lt k hk).2 (Nat.le_trans bel2.size bel3.size)
  wlt := fun k hk => (own3.lt k hk).2
  olt := fun k hk => Nat.lt_of_lt_of_le (own2.lt k hk).2 bel3.size
  slt := Nat.le_trans bel1.size (Nat.le_trans bel2.size bel3.size)
  size := bel4.size
  bel := ((bel1.trans (bel2.mono bel1.size)).trans (bel3.mono (Nat.le_trans bel1.size bel2.size))).trans (bel4.mono (Nat.le_trans bel1.size (Nat.le_trans bel2.size bel3.size)))

/-- In a round the text, its copy and the script are no nil slices. -/
theorem Env2.at (h : Env2 w0 W sb ta wa oa tl ol zs os) {k : Nat} (h1 : k < tl) (h2 : k < ol) :
    ∃ tg wg og, ta = some ⟨tg, 0, none⟩ ∧ wa = some ⟨wg, 0, none⟩ ∧ oa = some ⟨og, 0, none⟩ ∧ W.cell? ⟨tg, k, none⟩ = some (.int .u8 (zs.getD k 0)) ∧ W.cell? ⟨wg, k, none⟩ = some (.int .u8 (zs.getD k 0)) ∧ W.cell? ⟨og, k, none⟩ = some (.int .u8 (os.getD k 0)) := by
  have form : ∀ {a : Option Addr} {n : Nat} {ys : List Int}, W.ownsRow w0.heap.size 5 1 (.slice a n n) n (ys.map (.int .u8)) → k < n → ∃ g, a = some ⟨g, 0, none⟩ ∧ W.cell? ⟨g, k, none⟩ = some (.int .u8 (ys.getD k 0)) := by
    intro a n ys hr hk
    have hl : ys.length = n := (own_u8 hr).1
    have hk2 : k < ys.length := by omega
    rcases hr.2 with ⟨h', _⟩ | ⟨g, cap', cur, h', _⟩
    · simp only [Value.slice.injEq] at h'; omega
    · simp only [Value.slice.injEq, true_and] at h'
      obtain ⟨rfl, rfl⟩ := h'
      refine ⟨g, rfl, ?_⟩
      rw [hr.cellAt k (by omega)]
      simp [hk2]
  obtain ⟨tg, e1, c1⟩ := form h.tx h1
  obtain ⟨wg, e2, c2⟩ := form h.wt h1
  obtain ⟨og, e3, c3⟩ := form h.op h2
  exact ⟨tg, wg, og, e1, e2, e3, c1, c2, c3⟩
end

theorem cell_u8 {W : World} {B n g k : Nat} {ys : List Int} (h : W.ownsRow B 5 1 (.slice (some ⟨g, 0, none⟩) n n) n (ys.map (.int .u8))) (hk : k < n) : W.cell? ⟨g, k, none⟩ = some (.int .u8 (ys.getD k 0)) := by
  have hl : ys.length = n := (own_u8 h).1
  have hk2 : k < ys.length := by omega
  rw [h.cellAt k (by omega)]
  simp [hk2]
theorem Env2.cellT {w0 W : World} {sb tg : Nat} {wa oa : Option Addr} {tl ol k : Nat} {zs os : List Int} (h : Env2 w0 W sb (some ⟨tg, 0, none⟩) wa oa tl ol zs os) (hk : k < tl) : W.cell? ⟨tg, k, none⟩ = some (.int .u8 (zs.getD k 0)) := cell_u8 h.tx hk
theorem Env2.cellW {w0 W : World} {sb wg : Nat} {ta oa : Option Addr} {tl ol k : Nat} {zs os : List Int} (h : Env2 w0 W sb ta (some ⟨wg, 0, none⟩) oa tl ol zs os) (hk : k < tl) : W.cell? ⟨wg, k, none⟩ = some (.int .u8 (zs.getD k 0)) := cell_u8 h.wt hk

/-- The stack: a row of bools with room. -/
def Stk (W : World) (B kb cap : Nat) (n : Nat) (bs : List Bool) : Prop := W.ownsRow B 4 1 (.slice (some ⟨kb, 0, none⟩) n cap) n (bs.map .bool)

theorem Stk.blk {W : World} {B kb cap n : Nat} {bs : List Bool} (h : Stk W B kb cap n bs) : ∃ cur, W.heap[kb]? = some (.cells cur 4 (0, 0)) := by
  rcases h.2 with ⟨h', _⟩ | ⟨g, cap', cur, h', _, hh, _⟩
  · simp at h'
  · simp only [Value.slice.injEq, Option.some.injEq, Addr.mk.injEq, and_true, true_and] at h'
    obtain ⟨rfl, rfl⟩ := h'
    exact ⟨cur, hh⟩
theorem Stk.len {W : World} {B kb cap n : Nat} {bs : List Bool} (h : Stk W B kb cap n bs) : bs.length = n := by have := h.1; simp at this; exact this
theorem Stk.below {W W' : World} {B kb cap n : Nat} {bs : List Bool} (h : Stk W B kb cap n bs) (hb : Below W.heap.size W W') : Stk W' B kb cap n bs := own_below h hb
theorem Stk.keep {W W' : World} {B kb cap n sb B' : Nat} {bs : List Bool} (h : Stk W B kb cap n bs) (hK : Kp B' sb W W') (hne : kb ≠ sb) : Stk W' B kb cap n bs :=
  hK.row h (by omega) (by intro k hk; simp [Value.ownBlock] at hk; omega)
theorem Stk.setOther {W : World} {B kb cap n g : Nat} {bs : List Bool} (h : Stk W B kb cap n bs) (hne : kb ≠ g) (j : Nat) (u : Value) : Stk (W.setCell ⟨g, j, none⟩ u) B kb cap n bs :=
  ownsRow_setCell_other h (by simp [Value.ownBlock]; exact hne) u
theorem Stk.alloc {W : World} {B kb cap n : Nat} {bs : List Bool} (h : Stk W B kb cap n bs) (o : Obj) : Stk (W.alloc o) B kb cap n bs := World.ownsRow.alloc h o
theorem Stk.cell {W : World} {B kb cap n : Nat} {bs : List Bool} (h : Stk W B kb cap n bs) (j : Nat) (hj : j < n) : W.cell? ⟨kb, j, none⟩ = some (.bool (bs.getD j false)) := by
  have hl : j < bs.length := by rw [h.len]; exact hj
  rw [World.ownsRow.cellAt h j (by omega)]
  simp [hl]
theorem Stk.rd {W : World} {B kb cap n : Nat} {bs : List Bool} (h : Stk W B kb cap n bs) : Rd W (some ⟨kb, 0, none⟩) n (fun i => .bool (bs.getD i false)) := by
  intro i hi
  exact ⟨kb, 0, rfl, by rw [Nat.zero_add]; exact h.cell i hi⟩
theorem Stk.pop {W : World} {B kb cap m : Nat} {cs : List Bool} {b : Bool} (h : Stk W B kb cap (m + 1) (cs ++ [b])) : Stk W B kb cap m cs := by
  have hl : cs.length = m := by have := h.len; simp at this; exact this
  unfold Stk at h
  rw [List.map_append] at h
  exact ownsRow_pop (by simp; exact hl) h

/-- Behind a write to the stack's block alone. -/
theorem Sc.grownStk {W W' : World} {sb B kb : Nat} {tv : Value} {pos ex : Int} {v : Value} {af : Int} {bs : List Bool} {cur : Array Value} (h : Sc W sb B tv pos ex v bs af) (hg : W.grownBy W' (some kb)) (hkb : W.heap[kb]? = some (.cells cur 4 (0, 0))) : Sc W' sb B tv pos ex v bs af := by
  have hne : kb ≠ sb := by intro e; subst e; have := h.blk; rw [hkb] at this; simp at this
  refine ⟨by rw [hg.block sb (lt_of_block h.blk) (by simp; exact hne.symm)]; exact h.blk, own_block h.row ?_, Nat.le_trans h.base hg.size⟩
  intro k hk
  rcases h.row.2 with ⟨rfl, _⟩ | ⟨g, cap, c2, rfl, hb, hh, _⟩
  · simp [Value.ownBlock] at hk
  · simp [Value.ownBlock] at hk
    subst hk
    exact hg.block g (lt_of_block hh) (by simp; intro e; subst e; rw [hkb] at hh; simp at hh)
theorem Tk.grownStk {W W' : World} {g kb : Nat} {a b c : Value} {cur : Array Value} (h : Tk W g a b c) (hg : W.grownBy W' (some kb)) (hkb : W.heap[kb]? = some (.cells cur 4 (0, 0))) : Tk W' g a b c := by
  unfold Tk at *
  rw [hg.block g (lt_of_block h) (by simp; intro e; subst e; rw [hkb] at h; simp at h)]
  exact h
theorem Tk.setAll {W : World} {g : Nat} {a b c : Value} (h : Tk W g a b c) (x y z : Value) : Tk (((W.setCell ⟨g, 0, none⟩ x).setCell ⟨g, 1, none⟩ y).setCell ⟨g, 2, none⟩ z) g x y z := by
  have h1 := heap_setCell_same W g 0 _ _ x h
  have h2 := heap_setCell_same (W.setCell ⟨g, 0, none⟩ x) g 1 _ _ y h1
  exact heap_setCell_same ((W.setCell ⟨g, 0, none⟩ x).setCell ⟨g, 1, none⟩ y) g 2 _ _ z h2

theorem aft_snoc (bs : List Bool) (b : Bool) : aft (bs ++ [b]) = if b then 6 else 7 := by
  have h : (bs ++ [b]).length ≠ 0 := by simp
  have h2 : (bs ++ [b]).getD ((bs ++ [b]).length - 1) false = b := by simp
  simp only [aft, h, if_false, h2]
end Go.Proofs.Qxb6602231a
