import Derived.Test.Qxb6602231aListApp
namespace Go.Proofs.Qxb6602231a
open Go.RowKit

section
variable {w : World} {sb B : Nat} {tv : Value} {pos ex : Int} {af : Int}

set_option maxHeartbeats 1000000 in
theorem pop_core (n m g cap : Nat) (xs : List Value) (x : Int) (h : Raw w sb B tv pos ex (.slice (some ⟨g, 0, none⟩) m cap) ((n : Int) + 1) af m xs) (hg : g ≠ sb) (hn : n < 1048576) (hm : n < 8 * m) (hm' : m ≤ 1048576) (hx : xs[n / 8]? = some (.int .u8 x)) (h8 : ((n : Int) % 8 == 0) = false) :
    Calls Try.prog 35 #[.pointer (some ⟨sb, 3, none⟩)] w fun e w' => e = .returned (.tuple #[]) ∧ Raw w' sb B tv pos ex (.slice (some ⟨g, 0, none⟩) m cap) n af m (xs.set (n / 8) (.int .u8 (bits .andNot .u8 x (2 ^ (n % 8) % 256)))) ∧ Kp B sb w w' := by
  have h1 : (n : Int) / 8 < m := by omega
  have h2 : (0 : Int) ≤ (n : Int) % 8 ∧ (n : Int) % 8 < 8 := by omega
  have c3 := h.cell3
  have c4 := h.cell4
  have f3 := h.frozen 3
  have f4 := h.frozen 4
  have hf := h.row.frozenAt (n / 8)
  have hd : w.cell? ⟨g, n / 8, none⟩ = some (.int .u8 x) := by rw [h.row.cellAt (n / 8) (by omega)]; exact hx
  have R1 := h.set4 (n : Int)
  have R2 : Hid _ := R1.setRow (n / 8) (.int .u8 (bits .andNot .u8 x (2 ^ (n % 8) % 256)))
  clear h hx R1
  go_enter Try.func35, Try.ntmps35
  go_wp2
  go_region
  go_wp2
  go_end0
  exact ⟨rfl, R2.out.1.drew, (((Kp.refl _ _ _).setSb _ _).trans R2.out.2).drew⟩

set_option maxHeartbeats 1000000 in
theorem pop_cut (n m g cap : Nat) (xs : List Value) (x : Int) (h : Raw w sb B tv pos ex (.slice (some ⟨g, 0, none⟩) m cap) ((n : Int) + 1) af m xs) (hg : g ≠ sb) (hmc : m ≤ cap) (hn : n < 1048576) (hm : n < 8 * m) (hm' : m ≤ 1048576) (hmn : m = n / 8 + 1) (hx : xs[n / 8]? = some (.int .u8 x)) (h8 : ((n : Int) % 8 == 0) = true) :
    Calls Try.prog 35 #[.pointer (some ⟨sb, 3, none⟩)] w fun e w' => e = .returned (.tuple #[]) ∧ Raw w' sb B tv pos ex (.slice (some ⟨g, 0, none⟩) (n / 8) cap) n af (n / 8) (xs.take (n / 8)) ∧ Kp B sb w w' := by
  have h1 : (n : Int) / 8 < m := by omega
  have h2 : (0 : Int) ≤ (n : Int) % 8 ∧ (n : Int) % 8 < 8 := by omega
  have h3 : (n : Int) / 8 ≤ (cap : Int) := by omega
  have h4 : (0 : Int) ≤ (n : Int) / 8 := by omega
  have c3 := h.cell3
  have c4 := h.cell4
  have f3 := h.frozen 3
  have f4 := h.frozen 4
  have hf := h.row.frozenAt (n / 8)
  have hd : w.cell? ⟨g, n / 8, none⟩ = some (.int .u8 x) := by rw [h.row.cellAt (n / 8) (by omega)]; exact hx
  have hlen := h.row.1
  have R1 := h.set4 (n : Int)
  have R2 := R1.setRow (n / 8) (.int .u8 (bits .andNot .u8 x (2 ^ (n % 8) % 256)))
  have hrow := R2.1.row
  have hpop : ((w.setCell ⟨sb, 4, none⟩ (.int .i64 (n : Int))).setCell ⟨g, n / 8, none⟩ (.int .u8 (bits .andNot .u8 x (2 ^ (n % 8) % 256)))).ownsRow B 5 1 (.slice (some ⟨g, 0, none⟩) (n / 8) cap) (n / 8) (xs.take (n / 8)) := by
    subst hmn
    refine ownsRow_pop (last := [.int .u8 (bits .andNot .u8 x (2 ^ (n % 8) % 256))]) (by simp; omega) ?_
    have e : xs.set (n / 8) (.int .u8 (bits .andNot .u8 x (2 ^ (n % 8) % 256))) = xs.take (n / 8) ++ [.int .u8 (bits .andNot .u8 x (2 ^ (n % 8) % 256))] := by
      rw [List.set_eq_take_append_cons_drop, if_pos (by omega), List.drop_of_length_le (by omega)]
    rw [e] at hrow
    exact hrow
  have R3 : Hid _ := R2.1.set3 hpop
  have K3 : Hid _ := R2.2
  have HMN : Hid (m = n / 8 + 1) := hmn
  clear h hx R1 R2 hrow hpop hlen hmn
  go_enter Try.func35, Try.ntmps35
  go_wp2
  go_region
  go_wp2
  go_region
  all_goals (go_end0; exact ⟨rfl, R3.out.drew.drew, ((((Kp.refl _ _ _).setSb _ _).trans K3.out).setSb _ _).drew.drew⟩)
end

/-- List.Pop: the last bit is gone. -/
theorem list_pop {w : World} {sb B : Nat} {tv : Value} {pos ex : Int} {v : Value} {af : Int} {bs : List Bool} {b : Bool} (h : Sc w sb B tv pos ex v (bs ++ [b]) af) (hb : bs.length < 1048576) :
    Calls Try.prog 35 #[.pointer (some ⟨sb, 3, none⟩)] w fun e w' => e = .returned (.tuple #[]) ∧ ∃ v', Sc w' sb B tv pos ex v' bs af ∧ Kp B sb w w' := by
  have hl : (bs ++ [b]).length = bs.length + 1 := by simp
  have hl8 : (bs.length + 1 + 7) / 8 = bs.length / 8 + 1 := by omega
  unfold Sc at h
  rw [hl, hl8] at h
  obtain ⟨g, cap, rfl, hg, hc⟩ := h.form (by omega)
  have hx := pkn_at (bs ++ [b]) (bs.length / 8 + 1) (bs.length / 8) (by omega)
  have h' : Raw w sb B tv pos ex (.slice (some ⟨g, 0, none⟩) (bs.length / 8 + 1) cap) ((bs.length : Int) + 1) af (bs.length / 8 + 1) (pkn (bs ++ [b]) (bs.length / 8 + 1)) := h
  by_cases h8 : bs.length % 8 = 0
  · refine (pop_cut bs.length _ g cap _ _ h' hg hc hb (by omega) (by omega) rfl hx (by rw [beq_iff_eq]; omega)).mono ?_
    rintro e w' ⟨he, hR, hK⟩
    refine ⟨he, .slice (some ⟨g, 0, none⟩) (bs.length / 8) cap, ?_, hK⟩
    unfold Sc
    rw [show (bs.length + 7) / 8 = bs.length / 8 by omega]
    have e1 : (pkn (bs ++ [b]) (bs.length / 8 + 1)).take (bs.length / 8) = pkn bs (bs.length / 8) := by
      rw [pkn_snoc, List.take_left' (pkn_len _ _)]
      exact pkn_congr _ _ _ fun j hj => byteOf_other bs b j (by omega)
    rw [e1] at hR
    exact hR
  · refine (pop_core bs.length _ g cap _ _ h' hg hb (by omega) (by omega) hx (beq_eq_false_iff_ne.2 (by omega))).mono ?_
    rintro e w' ⟨he, hR, hK⟩
    refine ⟨he, .slice (some ⟨g, 0, none⟩) (bs.length / 8 + 1) cap, ?_, hK⟩
    unfold Sc
    rw [show (bs.length + 7) / 8 = bs.length / 8 + 1 by omega]
    rw [bit_clear, pkn_set _ _ _ _ fun j hj => byteOf_other bs b j hj] at hR
    exact hR
end Go.Proofs.Qxb6602231a
