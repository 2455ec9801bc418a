import Derived.Test.Qxb6602231aSame
namespace Go.Proofs.Qxb6602231a
open Go.RowKit

theorem Sc.below {w w' : World} {sb B : Nat} {tv : Value} {pos ex : Int} {v : Value} {af : Int} {bs : List Bool} (h : Sc w sb B tv pos ex v bs af) (hb : Below w.heap.size w w') : Sc w' sb B tv pos ex v bs af := by
  refine ⟨by rw [hb.block sb (lt_of_block h.blk)]; exact h.blk, ?_, Nat.le_trans h.base hb.size⟩
  refine ⟨h.row.1, ?_⟩
  rcases h.row.2 with h2 | ⟨g, cap, cur, rfl, hg, hh, r⟩
  · exact .inl h2
  · exact .inr ⟨g, cap, cur, rfl, hg, by rw [hb.block g (lt_of_block hh)]; exact hh, r⟩
theorem own_below {w w' : World} {B e n : Nat} {v : Value} {xs : List Value} (h : w.ownsRow B e 1 v n xs) (hb : Below w.heap.size w w') : w'.ownsRow B e 1 v n xs := by
  refine ⟨h.1, ?_⟩
  rcases h.2 with h2 | ⟨g, cap, cur, rfl, hg, hh, r⟩
  · exact .inl h2
  · exact .inr ⟨g, cap, cur, rfl, hg, by rw [hb.block g (lt_of_block hh)]; exact hh, r⟩

set_option maxHeartbeats 400000 in
theorem zzOpen_any {w : World} {sb B : Nat} {tv : Value} {pos ex : Int} {v : Value} {af : Int} {bs : List Bool} (n : Nat) (hn : bs.length = n) (h : Sc w sb B tv pos ex v bs af) (hb : n ≤ 1048576) :
    Calls Try.prog 19 #[.pointer (some ⟨sb, 0, none⟩)] w fun e w' => e = .returned (.slice (some ⟨w.heap.size, 0, none⟩) n n) ∧ w'.ownsRow w.heap.size 4 1 (.slice (some ⟨w.heap.size, 0, none⟩) n n) n (bs.map .bool) ∧ Below w.heap.size w w' := by
  obtain ⟨i0, hi, hz0, hz1, hz2⟩ := info_parts info4
  have HN : Hid (bs.length = n) := hn
  have H : Hid _ := h
  clear h hn
  go_enter Try.func19, Try.ntmps19
  go_wp2_with (first | (go_at_call 31; refine (list_len_n H.out n (by have := HN.out; omega)).mono ?_; rintro e w' ⟨rfl, rfl⟩) | (at_make; refine wpList_make_full _ rfl _ _ 30 rfl w.heap.size 4 i0 (.bool false) 1 Try.underlying30 hi hz0 hz1 _ _ _ _ n rfl rfl rfl rfl ?_ ?_ ?_ ?_))
  · rw [hz2]; omega
  · unfold maxLen; omega
  · omega
  intro w1 hown hgrow
  have hb0 : Below w.heap.size w w1 := (Below.refl _ _).grown hgrow (Nat.le_refl _) (by simp)
  rw [toList_madeCells_one] at hown
  have hown0 : Hid (w1.ownsRow w.heap.size 4 1 (.slice (some ⟨w.heap.size, 0, none⟩) n n) n (upTo (bs.map .bool) (.bool false) 0)) := by
    have := rep_len (Value.bool false) (n := n) (zs := bs.map .bool) (by simpa using HN.out)
    rw [← this]; exact hown
  clear hown hgrow hi hz0 hz1 hz2
  go_wp2
  go_loopw [5] (fun i wr => ∃ k : Nat, k ≤ n ∧ i = .int .i64 k ∧ wr.ownsRow w.heap.size 4 1 (.slice (some ⟨w.heap.size, 0, none⟩) n n) n (upTo (bs.map .bool) (.bool false) k) ∧ Below w.heap.size w wr) (fun i _ => n - (intOf i).toNat)
  case atStart => exact ⟨0, by omega, rfl, hown0, hb0⟩
  case round =>
    obtain ⟨k, hk, rfl, hown, hb2⟩ := hrel
    clear hown0 hb0
    by_cases hlt : k < n
    · have HS : Hid _ := Sc.below H.out hb2
      have HO : Hid _ := hown
      have HB : Hid _ := hb2
      clear hown hb2
      go_wp2_with fail
      refine (list_at_q HS.out k (bs[k]?.getD false) (by simp) (by rw [HN.out]; exact hlt) (by rw [HN.out]; omega)).mono ?_
      rintro e w2 ⟨rfl, q, rfl⟩
      have hown : (wr.drewN q).ownsRow w.heap.size 4 1 (.slice (some ⟨w.heap.size, 0, none⟩) n n) n (upTo (bs.map .bool) (.bool false) k) := HO.out
      have hb3 : Below w.heap.size w (wr.drewN q) := below_drewN HB.out q
      obtain ⟨w3, hw3⟩ : ∃ w3, w3 = wr.drewN q := ⟨_, rfl⟩
      rw [← hw3] at hown hb3 ⊢
      clear hw3 HO HB HS
      have hf := hown.frozenAt k
      obtain ⟨v0, hv0⟩ := own_cell hown hlt
      have H1 : Hid _ := own_step Value.bool bs false _ hown (by rw [HN.out]; exact hlt)
      have H2 : Hid _ := Below.setCell hb3 (p := ⟨w.heap.size, k, none⟩) (Nat.le_refl _) (.bool (bs[k]?.getD false))
      clear hown hb3
      obtain ⟨y, hy⟩ : ∃ y, bs[k]?.getD false = y := ⟨_, rfl⟩
      rw [hy] at H1 H2 ⊢
      clear hy
      go_wp2
      go_roundw
      case rel => exact ⟨k + 1, by omega, by go_num, H1.out, H2.out⟩
      case measure => simp [intOf]; omega
    · obtain rfl : k = n := by omega
      have H1 : Hid (wr.ownsRow w.heap.size 4 1 (.slice (some ⟨w.heap.size, 0, none⟩) k k) k (bs.map .bool)) := by
        have e := upTo_all (bs.map Value.bool) (.bool false)
        rw [List.length_map, HN.out] at e
        rw [e] at hown; exact hown
      clear hown H
      go_wp2
      go_ret
      exact ⟨rfl, H1.out, hb2⟩
end Go.Proofs.Qxb6602231a
