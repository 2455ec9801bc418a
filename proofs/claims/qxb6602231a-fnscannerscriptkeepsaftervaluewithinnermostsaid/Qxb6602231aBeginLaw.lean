import Derived.Test.Qxb6602231aEnv
import Derived.Lib.Builder
namespace Go.Proofs.Qxb6602231a
open Go.RowKit

theorem neq_ptr (a : Addr) (w : World) : (binOp .neq 39 (.pointer (some a)) (.pointer (some a))).run Try.prog w = .ok (.bool false) w := by
  obtain ⟨i0, hi, _⟩ := info_parts info5
  exact Lib.run_neq_ptr_same w a Try.underlying39 hi

theorem bytes13_yes (a b : Option Addr) (n c m d : Nat) (x1 x2 x3 x4 x5 x6 : Int) (w : World) (hn : n ≤ 524288) (hm : m ≤ 524288) :
    Calls Try.prog 13 #[.slice a n c, .int .i64 x1, .int .u8 x2, .slice b m d, .int .u8 x3, .int .u8 x4, .int .u8 x5, .int .u8 x6] w fun e w' => e = .returned (.bool true) ∧ w = w' := by
  go_enter Try.func13, Try.ntmps13
  go_wp2
  go_ret
  exact ⟨rfl, rfl⟩

set_option maxRecDepth 100000 in
set_option maxHeartbeats 1000000 in
theorem begin_law (ad : Addr) (oa : Option Addr) (tl tc n oc p : Nat) (zs : List Int) (bs : List Bool) (x2 x3 k nx a2 : Int) (w : World) (htl : tl ≤ 524288) (hn : n ≤ 524288) (hp : p < tl)
    (hz : zs.length = tl) (hbs : bs.length = n) (ho : oa = none → n = 0) (hrt : Rd w (some ad) tl (fun i => .int .u8 (zs.getD i 0))) (hro : Rd w oa n (fun i => .bool (bs.getD i false))) :
    Calls Try.prog 5 #[.slice (some ad) tl tc, .int .i64 p, .int .u8 x2, .slice oa n oc, .int .u8 x3, .int .u8 k, .int .u8 nx, .int .u8 a2] w fun e w' => e = .returned (.bool true) ∧ Below w.heap.size w w' := by
  have HZ := hid hz
  have HBS := hid hbs
  have HO := hid hro
  have HOn := hid ho
  have p1 : (p : Int) < tl := by omega
  have C11 := cloneBytes_some ad tl tc zs w (by omega) hz hrt
  clear hz hbs hrt hro ho
  go_enter Try.func5, Try.ntmps5
  go_wp2_with (go_at_call 13; refine (bytes13_yes _ _ _ _ _ _ _ _ _ _ _ _ _ htl hn).mono ?_; rintro e w' ⟨rfl, rfl⟩)
  refine C11.mono ?_
  rintro e w1 ⟨rfl, own1, bel1⟩
  clear C11
  have HB1 := hid bel1
  have HR1 := hid (HO.out.below bel1)
  have HW1 := hid own1
  clear HO bel1 own1
  go_wp2_with fail
  refine (cloneBools_any oa n oc bs w1 (by omega) HBS.out HOn.out HR1.out).mono ?_
  rintro e w2 ⟨oa', rfl, own2, bel2⟩
  have HB2 := hid bel2
  have HW2 := hid own2
  have HR2 := hid (rd_of_own (own_below HW1.out bel2) (f := fun i => .int .u8 (zs.getD i 0)) (by
    intro i hi
    have hl : i < zs.length := by rw [HZ.out]; exact hi
    simp [hl]))
  clear bel2 own2 HOn HR1
  go_wp2_with fail
  refine (cloneBytes_some ⟨w.heap.size, 0, none⟩ tl tl zs w2 (by omega) HZ.out HR2.out).mono ?_
  rintro e w3 ⟨rfl, own3, bel3⟩
  have HB3 := hid bel3
  have HW3 := hid own3
  have HR3 := hid (rd_of_own (own_below HW2.out bel3) (f := fun i => .bool (bs.getD i false)) (by
    intro i hi
    have hl : i < bs.length := by rw [HBS.out]; exact hi
    simp [hl]))
  clear bel3 own3 HR2
  go_wp2_with fail
  refine (zzMake_any (some ⟨w.heap.size, 0, none⟩) oa' tl tl n n p x2 x3 bs w3 HBS.out (by omega) HR3.out).mono ?_
  rintro e w4 ⟨rfl, v, hS, bel4⟩
  have HE := hid (env_of HW1.out HB1.out HW2.out HB2.out HW3.out HB3.out bel4)
  have HS := hid hS
  clear HB1 HW1 HB2 HW2 HB3 HW3 HR3 bel4 hS
  obtain ⟨sb, hsb⟩ : ∃ sb, sb = w3.heap.size := ⟨_, rfl⟩
  obtain ⟨wg, hwg⟩ : ∃ wg, wg = w2.heap.size := ⟨_, rfl⟩
  obtain ⟨tg, htg⟩ : ∃ tg, tg = w.heap.size := ⟨_, rfl⟩
  rw [← hsb] at HE HS ⊢
  rw [← hwg] at HE ⊢
  rw [← htg] at HE HS
  simp only [← htg]
  clear hsb hwg htg
  go_wp2_with fail
  refine (zzBegin_any tg tl p k nx a2 HS.out hp (by omega) (by rw [HBS.out]; omega)).mono ?_
  rintro e w5 ⟨rfl, v5, hS5, hK5⟩
  have HE5 := hid (HE.out.keep hK5)
  have HS5 := hid hS5
  clear HE HS hS5 hK5
  have ekk : (k != k) = false := by simp
  have epp : ((p : Int) != (p : Int)) = false := by simp
  go_wp2
  obtain ⟨W, hW⟩ : ∃ W, W = w5.alloc (.cells #[.int .u8 k, .int .i64 p, .slice (some ⟨tg, p, none⟩) 1 (tl - p)] 37) := ⟨_, rfl⟩
  have HT : Tk W w5.heap.size (.int .u8 k) (.int .i64 p) (.slice (some ⟨tg, p, none⟩) 1 (tl - p)) := by rw [hW]; exact tk_new _ _ _ _
  have HE6 := hid (HE5.out.below (W' := W) (by rw [hW]; exact (Below.refl _ _).alloc (Nat.le_refl _) _))
  have HS6 := hid (Sc.below (w' := W) HS5.out (by rw [hW]; exact (Below.refl _ _).alloc (Nat.le_refl _) _))
  rw [← hW]
  clear hW HE5 HS5
  have c0 := HT.c0
  have c1 := HT.c1
  have c2 := HT.c2
  have ct := HE6.out.text p hp
  have cw := HE6.out.want p hp
  clear HT
  obtain ⟨z, hz⟩ : ∃ z, zs.getD p 0 = z := ⟨_, rfl⟩
  rw [hz] at ct cw
  clear hz
  have hnp := neq_ptr ⟨tg, p, none⟩
  have ezz : (z != z) = false := by simp
  go_quiet (fail)
  go_wp2_with fail
  refine (zzCursor_any (Sc.drewN HS6.out nq)).mono ?_
  rintro e w7 ⟨rfl, q7, hw7⟩
  have HE7 := hid (HE6.out.below (W' := w7) (by rw [hw7]; exact below_drewN (below_drewN (Below.refl _ _) _) _))
  have HS7 := hid (Sc.below (w' := w7) HS6.out (by rw [hw7]; exact below_drewN (below_drewN (Below.refl _ _) _) _))
  clear hw7 HE6 HS6 ct cw c0 c1 c2 hnp ekk epp ezz
  have e1 : ((p : Int) + 1 != (p : Int) + 1) = false := by simp
  have e2 : (nx != nx) = false := by simp
  have e3 : (a2 != a2) = false := by simp
  obtain ⟨i0, hi, hz0, hz1, hz2⟩ := info_parts info4
  go_wp2_with (at_make; refine wpList_make_full _ rfl _ _ 30 rfl w7.heap.size 4 i0 (.bool false) 1 Try.underlying30 hi hz0 hz1 _ _ _ _ (n + 1) rfl rfl (by omega) (by omega) ?_ ?_ ?_ ?_)
  · rw [hz2]; omega
  · unfold maxLen; omega
  · omega
  intro w8 hown hgrow
  have hb0 := hid ((Below.refl w7.heap.size w7).grown hgrow (Nat.le_refl _) (by simp))
  rw [toList_madeCells_one] at hown
  have hown0 := hid (show w8.ownsRow w7.heap.size 4 1 (.slice (some ⟨w7.heap.size, 0, none⟩) (n + 1) (n + 1)) (n + 1) (upTo ((bs ++ [false]).map .bool) (.bool false) 0) by
    have := rep_len (Value.bool false) (n := n + 1) (zs := (bs ++ [false]).map .bool) (by simpa using HBS.out)
    rw [← this]; exact hown)
  clear hown hgrow hi hz0 hz1 hz2
  go_wp2
  go_loopw [24] (fun i wr => ∃ j : Nat, j ≤ n ∧ i = .int .i64 j ∧ wr.ownsRow w7.heap.size 4 1 (.slice (some ⟨w7.heap.size, 0, none⟩) (n + 1) (n + 1)) (n + 1) (upTo ((bs ++ [false]).map .bool) (.bool false) j) ∧ Below w7.heap.size w7 wr) (fun i _ => n - (intOf i).toNat)
  case atStart => exact ⟨0, by omega, rfl, hown0.out, hb0.out⟩
  case round =>
    obtain ⟨j, hj, rfl, hown, hb2⟩ := hrel
    clear hown0 hb0
    by_cases hlt : j < n
    · obtain ⟨b1, o1, rfl, cc⟩ := HE7.out.rdOpen.below hb2 j hlt
      have hlt' : (j : Int) < n := by omega
      have hlt2 : (j : Int) < (n : Int) + 1 := by omega
      have hf := hown.frozenAt j
      obtain ⟨v0, hv0⟩ := own_cell hown (show j < n + 1 by omega)
      have H1 := hid (own_step Value.bool (bs ++ [false]) false _ hown (by simp; have := HBS.out; omega))
      have ey : (bs ++ [false])[j]?.getD false = bs.getD j false := by simp [List.getElem?_append_left (show j < bs.length by rw [HBS.out]; exact hlt)]
      rw [ey] at H1
      obtain ⟨y, hy⟩ : ∃ y, bs.getD j false = y := ⟨_, rfl⟩
      simp only [hy] at H1 cc
      have H2 := hid (Below.setCell hb2 (p := ⟨w7.heap.size, j, none⟩) (Nat.le_refl _) (.bool y))
      clear hown hb2 hy ey
      go_wp2
      go_roundw
      case rel => exact ⟨j + 1, by omega, by go_num, H1.out, H2.out⟩
      case measure => simp [intOf]; omega
    · obtain rfl : j = n := by omega
      have hf := hown.frozenAt j
      obtain ⟨v0, hv0⟩ := own_cell hown (show j < j + 1 by omega)
      have H1 := (hown.stored j (.bool (k == 3))).1
      have H2 := Below.setCell hb2 (p := ⟨w7.heap.size, j, none⟩) (Nat.le_refl _) (.bool (k == 3))
      have el : (upTo ((bs ++ [false]).map Value.bool) (.bool false) j).set j (.bool (k == 3)) = (bs ++ [k == 3]).map .bool := by
        have hl := HBS.out
        subst hl
        simp [upTo]
      rw [el] at H1
      have HO := hid H1
      have HB := hid H2
      clear H1 H2 hown hb2 el
      have hl : (j : Int) < (j : Int) + 1 := by omega
      obtain ⟨w9, hw9⟩ : ∃ w9, w9 = wr.setCell ⟨w7.heap.size, j, none⟩ (.bool (k == 3)) := ⟨_, rfl⟩
      rw [← hw9] at HO HB
      have HE9 := hid (HE7.out.below HB.out)
      have HS9 := hid (Sc.below HS7.out HB.out)
      clear HE7 HS7 HB
      go_wp2_with fail
      rw [← hw9]
      clear hw9 hf hv0
      refine (zzOpen_any (j + 1) (by simpa using HBS.out) HS9.out (by omega)).mono ?_
      rintro e w10 ⟨rfl, own10, bel10⟩
      have hgd : ∀ i, i < j + 1 → ((bs ++ [k == 3]).map Value.bool)[i]? = some (.bool ((bs ++ [k == 3]).getD i false)) := by
        intro i hi
        have hl2 : i < (bs ++ [k == 3]).length := by simp; have := HBS.out; omega
        rw [List.getElem?_map, List.getD_eq_getElem?_getD, List.getElem?_eq_getElem hl2]; rfl
      have HA := hid (rd_of_own own10 hgd)
      have HC := hid (rd_of_own (own_below HO.out bel10) hgd)
      have HE10 := hid (HE9.out.below bel10)
      have HS10 := hid (Sc.below HS9.out bel10)
      clear own10 bel10 HE9 HS9 HO hgd
      go_wp2_with fail
      refine (sameBools_eq _ _ _ _ (bs ++ [k == 3]) (j + 1) w10 (by omega) HA.out HC.out).mono ?_
      rintro e w11 ⟨rfl, q11, hw11⟩
      have HE11 := hid (HE10.out.below (W' := w11) (by rw [hw11]; exact below_drewN (Below.refl _ _) _))
      have HS11 := hid (Sc.below (w' := w11) HS10.out (by rw [hw11]; exact below_drewN (Below.refl _ _) _))
      clear HE10 HS10 HA HC hw11
      go_wp2_with fail
      refine (zzText_any (some ⟨tg, 0, none⟩) tl tl HS11.out).mono ?_
      rintro e w12 ⟨rfl, rfl⟩
      go_wp2_with fail
      refine (sameBytes_eq _ _ _ _ zs tl w11 (by omega) HE11.out.rdText HE11.out.rdWant).mono ?_
      rintro e w12 ⟨rfl, q12, rfl⟩
      go_wp2
      go_ret
      exact ⟨rfl, below_drewN HE11.out.bel _⟩
end Go.Proofs.Qxb6602231a
