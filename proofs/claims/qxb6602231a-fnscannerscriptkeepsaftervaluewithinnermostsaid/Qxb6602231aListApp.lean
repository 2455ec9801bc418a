import Derived.Test.Qxb6602231aList
namespace Go.Proofs.Qxb6602231a
open Go.RowKit

theorem raw_of {w : World} {sb B m : Nat} {tv v0 v : Value} {pos ex n af : Int} {xs : List Value} (hblk : w.heap[sb]? = some (.cells #[tv, .int .i64 pos, .int .u8 ex, v0, .int .i64 n, .int .u8 af] 56 (0, 0))) (hown : w.ownsRow B 5 1 v m xs) (hB : B ≤ w.heap.size) :
    Raw (w.setCell ⟨sb, 3, none⟩ v) sb B tv pos ex v n af m xs := by
  have hne : v.ownBlock ≠ some sb := by
    intro e
    rcases hown.2 with ⟨rfl, _⟩ | ⟨g, cap, cur, rfl, hb, hh, _⟩
    · simp [Value.ownBlock] at e
    · simp [Value.ownBlock] at e
      subst e
      rw [hblk] at hh
      simp at hh
  exact ⟨heap_setCell_same w sb 3 _ _ _ hblk, ownsRow_setCell_other hown hne _, by simpa [World.setCell] using hB⟩

theorem blk_cell {w : World} {sb j : Nat} {cur : Array Value} {e : TypeId} {x : Value} (h : w.heap[sb]? = some (.cells cur e (0, 0))) (hx : cur[j]? = some x) : w.cell? ⟨sb, j, none⟩ = some x := by rw [cell_of_row w sb j _ _ _ h]; exact hx

section
variable {w : World} {sb B : Nat} {tv : Value} {pos ex : Int} {v : Value} {af : Int}

/-- What Append leaves, in the machine's words. -/
def AppPost (w : World) (sb B : Nat) (tv : Value) (pos ex : Int) (n : Nat) (af : Int) (m : Nat) (xs : List Value) (x : Int) (b : Bool) (e : Ending) (w' : World) : Prop :=
  e = .returned (.tuple #[]) ∧ ∃ v', Raw w' sb B tv pos ex v' ((n : Int) + 1) af m (if b then xs.set (n / 8) (.int .u8 (bits .or .u8 x (2 ^ (n % 8) % 256))) else xs) ∧ Kp B sb w w'

set_option maxHeartbeats 400000 in
theorem append_grow (n m : Nat) (xs : List Value) (b : Bool) (h : Raw w sb B tv pos ex v n af m xs) (hn : n < 1048576) (hm : n = 8 * m) (h8 : ((n : Int) % 8 == 0) = true) :
    Calls Try.prog 29 #[.pointer (some ⟨sb, 3, none⟩), .bool b] w (AppPost w sb B tv pos ex n af (m + 1) (xs ++ [.int .u8 0]) 0 b) := by
  have HM : Hid (n = 8 * xs.length) := by have := h.row.1; show _ = _; omega
  have hm' : 8 * m ≤ 1048576 := by omega
  have hm2 : n < 8 * (m + 1) := by omega
  clear hm
  have c3 := h.cell3
  have c4 := h.cell4
  have f3 := h.frozen 3
  have f4 := h.frozen 4
  have hrow := h.row.alloc (.cells #[.int .u8 0] 5)
  have hbase := h.base
  obtain ⟨i0, hi, hz0, hz1, hz2⟩ := info_parts info5
  have H : Hid _ := h
  clear h
  go_enter Try.func29, Try.ntmps29
  go_wp2_with (at_builtin; refine wpList_append_own _ rfl _ _ 22 rfl B 5 i0 (.int .u8 0) 1 1 Try.underlying22 hi hz0 hz1 hz2 rfl (by decide) _ _ _ rfl hrow ⟨w.heap.size, 0, none⟩ 1 1 [.int .u8 0] rfl rfl (cell_one_new _ _ _) ?c2 ?c3 ?c4 ?c5 ?_)
  case c2 => intro u hu; simp at hu; subst hu; rfl
  case c3 => unfold maxLen; omega
  case c4 => omega
  case c5 => simp; omega
  intro v' w1 hown' hgrow _
  have hblk := (H.out.alloc (.cells #[.int .u8 0] 5)).grown hgrow
  have hB1 : B ≤ w1.heap.size := by have := hgrow.size; simp at this; omega
  have R1 := raw_of hblk hown' hB1
  have K1 : Hid (Kp B sb w w1) := ((Kp.refl B sb w).alloc _).grown hrow hgrow
  obtain ⟨g, cap, hv, hg, hc⟩ := R1.form (by omega)
  rw [hv] at R1 ⊢
  have d4 : w1.cell? ⟨sb, 4, none⟩ = some (.int .i64 n) := blk_cell hblk rfl
  have d3 : w1.cell? ⟨sb, 3, none⟩ = some v := blk_cell hblk rfl
  have e3 : w1.frozen? ⟨sb, 3, none⟩ = false := frozen_of_row w1 sb 3 _ _ hblk
  have e4 : w1.frozen? ⟨sb, 4, none⟩ = false := frozen_of_row w1 sb 4 _ _ hblk
  have R2 : Hid _ := R1.set4 ((n : Int) + 1)
  clear hown' hgrow hblk R1 hv c3 c4 f3 f4 hrow hi hz0 hz1 hz2 H
  cases b with
  | false =>
    go_wp2
    go_end0
    exact ⟨rfl, _, R2.out, (K1.out.setSb _ _).setSb _ _⟩
  | true =>
    have hx : (xs ++ [Value.int .u8 0])[n / 8]? = some (.int .u8 0) := by
      have e : n / 8 = xs.length := by have := HM.out; omega
      rw [e]; simp
    have HC := list_set R2.out n 0 (by omega) (by omega) hx
    clear hx
    go_wp2_with fail
    refine HC.mono ?_
    rintro e w2 ⟨rfl, hR, hK⟩
    clear HC
    go_wp2
    go_end0
    exact ⟨rfl, _, hR, ((K1.out.setSb _ _).setSb _ _).trans hK⟩

set_option maxHeartbeats 400000 in
theorem append_keep (n m : Nat) (xs : List Value) (x : Int) (b : Bool) (h : Raw w sb B tv pos ex v n af m xs) (hn : n < 1048576) (hm : n < 8 * m) (hm' : m ≤ 1048576) (hx : xs[n / 8]? = some (.int .u8 x)) (h8 : ((n : Int) % 8 == 0) = false) :
    Calls Try.prog 29 #[.pointer (some ⟨sb, 3, none⟩), .bool b] w (AppPost w sb B tv pos ex n af m xs x b) := by
  obtain ⟨g, cap, rfl, hg, hc⟩ := h.form (by omega)
  have c3 := h.cell3
  have c4 := h.cell4
  have f3 := h.frozen 3
  have f4 := h.frozen 4
  have R2 : Hid _ := h.set4 ((n : Int) + 1)
  have HC := list_set R2.out n x (by omega) (by omega) hx
  clear h hx
  go_enter Try.func29, Try.ntmps29
  cases b with
  | false =>
    clear HC
    go_wp2
    go_end0
    exact ⟨rfl, _, R2.out, (Kp.refl _ _ _).setSb _ _⟩
  | true =>
    go_wp2_with fail
    refine HC.mono ?_
    rintro e w2 ⟨rfl, hR, hK⟩
    clear HC
    go_wp2
    go_end0
    exact ⟨rfl, _, hR, ((Kp.refl _ _ _).setSb _ _).trans hK⟩
end

/-- THE PLAIN PART: the bytes of one bit more. -/
theorem app_bytes (bs : List Bool) (b : Bool) : (if b then (pkn bs (bs.length / 8 + 1)).set (bs.length / 8) (.int .u8 (bits .or .u8 (byteOf bs (bs.length / 8) : Int) (2 ^ (bs.length % 8) % 256))) else pkn bs (bs.length / 8 + 1)) = pkn (bs ++ [b]) (bs.length / 8 + 1) := by
  cases b with
  | false => simp only [Bool.false_eq_true, if_false]; exact (pkn_false _ _).symm
  | true =>
    simp only [if_true]
    rw [bit_or]
    exact pkn_set _ _ _ _ fun j hj => (byteOf_other bs true j hj).symm

/-- List.Append: the bit list is one bit longer. -/
theorem list_append {w : World} {sb B : Nat} {tv : Value} {pos ex : Int} {v : Value} {af : Int} {bs : List Bool} (h : Sc w sb B tv pos ex v bs af) (b : Bool) (hb : bs.length < 1048576) :
    Calls Try.prog 29 #[.pointer (some ⟨sb, 3, none⟩), .bool b] w fun e w' => e = .returned (.tuple #[]) ∧ ∃ v', Sc w' sb B tv pos ex v' (bs ++ [b]) af ∧ Kp B sb w w' := by
  have hl : (bs ++ [b]).length = bs.length + 1 := by simp
  have hl8 : (bs.length + 1 + 7) / 8 = bs.length / 8 + 1 := by omega
  have fin : ∀ e w', AppPost w sb B tv pos ex bs.length af (bs.length / 8 + 1) (pkn bs (bs.length / 8 + 1)) (byteOf bs (bs.length / 8) : Int) b e w' → e = .returned (.tuple #[]) ∧ ∃ v', Sc w' sb B tv pos ex v' (bs ++ [b]) af ∧ Kp B sb w w' := by
    rintro e w' ⟨he, v', hR, hK⟩
    refine ⟨he, v', ?_, hK⟩
    unfold Sc
    rw [hl, hl8]
    rw [app_bytes] at hR
    exact hR
  unfold Sc at h
  by_cases h8 : bs.length % 8 = 0
  · have e0 : (byteOf bs (bs.length / 8) : Int) = 0 := by rw [byteOf_past bs _ (by omega)]; rfl
    have e1 : (bs.length + 7) / 8 = bs.length / 8 := by omega
    rw [e1] at h
    have := append_grow bs.length (bs.length / 8) (pkn bs (bs.length / 8)) b h hb (by omega) (by rw [beq_iff_eq]; omega)
    rw [show (pkn bs (bs.length / 8) ++ [Value.int .u8 0]) = pkn bs (bs.length / 8 + 1) by rw [pkn_snoc, e0]] at this
    rw [e0] at fin
    exact this.mono fin
  · have e1 : (bs.length + 7) / 8 = bs.length / 8 + 1 := by omega
    rw [e1] at h
    exact (append_keep bs.length (bs.length / 8 + 1) (pkn bs (bs.length / 8 + 1)) (byteOf bs (bs.length / 8) : Int) b h hb (by omega) (by omega) (pkn_at _ _ _ (by omega)) (beq_eq_false_iff_ne.2 (by omega))).mono fin
end Go.Proofs.Qxb6602231a
