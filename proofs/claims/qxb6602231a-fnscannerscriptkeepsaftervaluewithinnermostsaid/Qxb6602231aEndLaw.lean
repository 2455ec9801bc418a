import Derived.Test.Qxb6602231aBeginLaw
namespace Go.Proofs.Qxb6602231a
open Go.RowKit

theorem bytes22_yes (a b : Option Addr) (n c m d : Nat) (x1 x2 x3 x4 : Int) (w : World) (hn : n ≤ 524288) (hm : m ≤ 524288) :
    Calls Try.prog 22 #[.slice a n c, .int .i64 x1, .int .u8 x2, .slice b m d, .int .u8 x3, .int .u8 x4] w fun e w' => e = .returned (.bool true) ∧ w = w' := by
  go_enter Try.func22, Try.ntmps22
  go_wp2
  go_ret
  exact ⟨rfl, rfl⟩

set_option maxRecDepth 100000 in
set_option maxHeartbeats 1000000 in
theorem end_law (ad : Addr) (oa : Option Addr) (tl tc n m oc p : Nat) (zs : List Int) (cs : List Bool) (b : Bool) (x2 x3 k : Int) (w : World) (htl : tl ≤ 524288) (hn : n ≤ 524288) (hnm : n = m + 1) (hp : p < tl)
    (hz : zs.length = tl) (hbs : (cs ++ [b]).length = n) (ho : oa = none → n = 0) (hrt : Rd w (some ad) tl (fun i => .int .u8 (zs.getD i 0))) (hro : Rd w oa n (fun i => .bool ((cs ++ [b]).getD i false))) :
    Calls Try.prog 6 #[.slice (some ad) tl tc, .int .i64 p, .int .u8 x2, .slice oa n oc, .int .u8 x3, .int .u8 k] w fun e w' => e = .returned (.bool true) ∧ Below w.heap.size w w' := by
  have HZ := hid hz
  have HBS := hid hbs
  have HCS := hid (show cs.length = m by simp at hbs; omega)
  have hm0 : ((n : Int) == 0) = false := beq_eq_false_iff_ne.2 (by omega)
  have hm1 : m < n := by omega
  have hm2 : n ≤ m + 1 := by omega
  have HM := hid hnm
  have HO := hid hro
  have HOn := hid ho
  have p1 : (p : Int) < tl := by omega
  have C11 := cloneBytes_some ad tl tc zs w (by omega) hz hrt
  clear hz hbs hrt hro ho hnm
  go_enter Try.func6, Try.ntmps6
  go_wp2_with fail
  refine (bytes22_yes _ _ _ _ _ _ _ _ _ _ _ htl hn).mono ?_
  rintro e w' ⟨rfl, rfl⟩
  go_wp2_with fail
  refine C11.mono ?_
  rintro e w1 ⟨rfl, own1, bel1⟩
  clear C11
  have HB1 := hid bel1
  have HR1 := hid (HO.out.below bel1)
  have HW1 := hid own1
  clear HO bel1 own1
  go_wp2_with fail
  refine (cloneBools_any oa n oc (cs ++ [b]) w1 (by omega) HBS.out HOn.out HR1.out).mono ?_
  rintro e w2 ⟨oa', rfl, own2, bel2⟩
  have HB2 := hid bel2
  have HW2 := hid own2
  have HR2 := hid (rd_of_own (own_below HW1.out bel2) (f := fun i => .int .u8 (zs.getD i 0)) (by
    intro i hi
    have hl : i < zs.length := by rw [HZ.out]; exact hi
    simp [hl]))
  clear bel2 own2 HOn HR1
  go_wp2_with fail
  refine (cloneBytes_some ⟨w.heap.size, 0, none⟩ tl tl zs w2 (by omega) HZ.out HR2.out).mono ?_
  rintro e w3 ⟨rfl, own3, bel3⟩
  have HB3 := hid bel3
  have HW3 := hid own3
  have HR3 := hid (rd_of_own (own_below HW2.out bel3) (f := fun i => .bool ((cs ++ [b]).getD i false)) (by
    intro i hi
    have hl : i < (cs ++ [b]).length := by rw [HBS.out]; exact hi
    rw [List.getElem?_map, List.getD_eq_getElem?_getD, List.getElem?_eq_getElem hl]; rfl))
  clear bel3 own3 HR2
  go_wp2_with fail
  refine (zzMake_any (some ⟨w.heap.size, 0, none⟩) oa' tl tl n n p x2 x3 (cs ++ [b]) w3 HBS.out (by omega) HR3.out).mono ?_
  rintro e w4 ⟨rfl, v, hS, bel4⟩
  have HE := hid (env_of HW1.out HB1.out HW2.out HB2.out HW3.out HB3.out bel4)
  have HS := hid hS
  clear HB1 HW1 HB2 HW2 HB3 HW3 HR3 bel4 hS
  obtain ⟨sb, hsb⟩ : ∃ sb, sb = w3.heap.size := ⟨_, rfl⟩
  obtain ⟨wg, hwg⟩ : ∃ wg, wg = w2.heap.size := ⟨_, rfl⟩
  obtain ⟨tg, htg⟩ : ∃ tg, tg = w.heap.size := ⟨_, rfl⟩
  rw [← hsb] at HE HS ⊢
  rw [← hwg] at HE ⊢
  rw [← htg] at HE HS
  simp only [← htg]
  clear hsb hwg htg
  go_wp2_with fail
  obtain ⟨A, hA⟩ : ∃ A, aft cs = A := ⟨_, rfl⟩
  have HA := hid hA
  clear hA
  refine (zzEnd_any tg tl p k A b HS.out hp (by omega) (by rw [HCS.out]; omega) HA.out).mono ?_
  rintro e w5 ⟨rfl, v5, hS5, hK5⟩
  have HE5 := hid (HE.out.keep hK5)
  have HS5 := hid hS5
  clear HE HS hS5 hK5
  have ekk : (k != k) = false := by simp
  have epp : ((p : Int) != (p : Int)) = false := by simp
  go_wp2
  obtain ⟨W, hW⟩ : ∃ W, W = w5.alloc (.cells #[.int .u8 k, .int .i64 p, .slice (some ⟨tg, p, none⟩) 1 (tl - p)] 37) := ⟨_, rfl⟩
  have HT : Tk W w5.heap.size (.int .u8 k) (.int .i64 p) (.slice (some ⟨tg, p, none⟩) 1 (tl - p)) := by rw [hW]; exact tk_new _ _ _ _
  have HE6 := hid (HE5.out.below (W' := W) (by rw [hW]; exact (Below.refl _ _).alloc (Nat.le_refl _) _))
  have HS6 := hid (Sc.below (w' := W) HS5.out (by rw [hW]; exact (Below.refl _ _).alloc (Nat.le_refl _) _))
  rw [← hW]
  clear hW HE5 HS5
  have c0 := HT.c0
  have c1 := HT.c1
  have c2 := HT.c2
  have ct := HE6.out.text p hp
  have cw := HE6.out.want p hp
  clear HT
  obtain ⟨z, hz⟩ : ∃ z, zs.getD p 0 = z := ⟨_, rfl⟩
  rw [hz] at ct cw
  clear hz
  have hnp := neq_ptr ⟨tg, p, none⟩
  have ezz : (z != z) = false := by simp
  go_quiet (fail)
  have HE7 := hid (HE6.out.below (W' := W.drewN nq) (below_drewN (Below.refl _ _) _))
  have HS7 := hid (Sc.drewN HS6.out nq)
  obtain ⟨w7, hw7⟩ : ∃ w7, w7 = W.drewN nq := ⟨_, rfl⟩
  rw [← hw7] at HE7 HS7 ⊢
  clear hw7 HE6 HS6 ct cw c0 c1 c2 hnp ekk epp ezz
  obtain ⟨i0, hi, hz0, hz1, hz2⟩ := info_parts info4
  go_wp2_with (at_make; refine wpList_make_full _ rfl _ _ 30 rfl w7.heap.size 4 i0 (.bool false) 1 Try.underlying30 hi hz0 hz1 _ _ _ _ m rfl rfl (by omega) (by omega) ?_ ?_ ?_ ?_)
  · rw [hz2]; omega
  · unfold maxLen; omega
  · omega
  intro w8 hown hgrow
  have hb0 := hid ((Below.refl w7.heap.size w7).grown hgrow (Nat.le_refl _) (by simp))
  rw [toList_madeCells_one] at hown
  have hown0 := hid (show w8.ownsRow w7.heap.size 4 1 (.slice (some ⟨w7.heap.size, 0, none⟩) m m) m (upTo (cs.map .bool) (.bool false) 0) by
    have := rep_len (Value.bool false) (n := m) (zs := cs.map .bool) (by simpa using HCS.out)
    rw [← this]; exact hown)
  clear hown hgrow hi hz0 hz1 hz2
  go_wp2
  go_loopw [17] (fun i wr => ∃ j : Nat, j ≤ m ∧ i = .int .i64 j ∧ wr.ownsRow w7.heap.size 4 1 (.slice (some ⟨w7.heap.size, 0, none⟩) m m) m (upTo (cs.map .bool) (.bool false) j) ∧ Below w7.heap.size w7 wr) (fun i _ => m - (intOf i).toNat)
  case atStart => exact ⟨0, by omega, rfl, hown0.out, hb0.out⟩
  case round =>
    obtain ⟨j, hj, rfl, hown, hb2⟩ := hrel
    clear hown0 hb0
    by_cases hlt : j < m
    · obtain ⟨b1, o1, rfl, cc⟩ := HE7.out.rdOpen.below hb2 j (by omega)
      have hlt' : (j : Int) < (n : Int) - 1 := by omega
      have hlt3 : (j : Int) < (m : Int) := by omega
      have hlt2 : (j : Int) < (n : Int) := by omega
      have hf := hown.frozenAt j
      obtain ⟨v0, hv0⟩ := own_cell hown hlt
      have H1 := hid (own_step Value.bool cs false _ hown (by rw [HCS.out]; exact hlt))
      have ey : (cs ++ [b]).getD j false = cs[j]?.getD false := by simp [List.getElem?_append_left (show j < cs.length by rw [HCS.out]; exact hlt)]
      simp only [ey] at cc
      obtain ⟨y, hy⟩ : ∃ y, cs[j]?.getD false = y := ⟨_, rfl⟩
      rw [hy] at H1 cc
      have H2 := hid (Below.setCell hb2 (p := ⟨w7.heap.size, j, none⟩) (Nat.le_refl _) (.bool y))
      clear hown hb2 hy ey
      go_wp2
      go_roundw
      case rel => exact ⟨j + 1, by omega, by go_num, H1.out, H2.out⟩
      case measure => simp [intOf]; omega
    · obtain rfl : j = m := by omega
      have HO := hid (show wr.ownsRow w7.heap.size 4 1 (.slice (some ⟨w7.heap.size, 0, none⟩) j j) j (cs.map .bool) by
        have e := upTo_all (cs.map Value.bool) (.bool false)
        rw [List.length_map, HCS.out] at e
        rw [e] at hown; exact hown)
      have HE9 := hid (HE7.out.below hb2)
      have HS9 := hid (Sc.below HS7.out hb2)
      have hgd : ∀ i, i < j → (cs.map Value.bool)[i]? = some (.bool (cs.getD i false)) := by
        intro i hi
        have hl2 : i < cs.length := by rw [HCS.out]; exact hi
        rw [List.getElem?_map, List.getD_eq_getElem?_getD, List.getElem?_eq_getElem hl2]; rfl
      have HRO := hid (rd_of_own HO.out hgd)
      have hcl := HCS.out
      clear hown hb2 HE7 HS7 HCS
      go_wp2_with fail
      subst hcl
      refine (after_any _ _ cs wr (by omega) HRO.out).mono ?_
      rw [HA.out]
      rintro e w9 ⟨rfl, rfl⟩
      have hcb : cs.length ≤ 1048576 := by omega
      obtain ⟨c, hc⟩ : ∃ c, cs.length = c := ⟨_, rfl⟩
      rw [hc] at HO HRO hm1 hm2 hcb hj hlt HM
      simp only [hc]
      have HCL := hid hc
      clear hc
      have e1 : ((p : Int) + 1 != (p : Int) + 1) = false := by simp
      have e2 : (A != A) = false := by simp
      go_wp2_with fail
      refine (zzCursor_any HS9.out).mono ?_
      rintro e w9 ⟨rfl, q9, hw9⟩
      have hb9 : Below wr.heap.size wr w9 := by rw [hw9]; exact below_drewN (Below.refl _ _) _
      have HE10 := hid (HE9.out.below hb9)
      have HS10 := hid (Sc.below HS9.out hb9)
      have HO10 := hid (own_below HO.out hb9)
      clear hw9 hb9 HE9 HS9 HO HRO
      go_wp2_with fail
      refine (zzOpen_any c HCL.out HS10.out hcb).mono ?_
      rintro e w10 ⟨rfl, own10, bel10⟩
      have hgd : ∀ i, i < c → (cs.map Value.bool)[i]? = some (.bool (cs.getD i false)) := by
        intro i hi
        have hl2 : i < cs.length := by rw [HCL.out]; exact hi
        rw [List.getElem?_map, List.getD_eq_getElem?_getD, List.getElem?_eq_getElem hl2]; rfl
      have HRA := hid (rd_of_own own10 hgd)
      have HRC := hid (rd_of_own (own_below HO10.out bel10) hgd)
      have HE11 := hid (HE10.out.below bel10)
      have HS11 := hid (Sc.below HS10.out bel10)
      clear own10 bel10 HE10 HS10 HO10 hgd
      go_wp2_with fail
      refine (sameBools_eq _ _ _ _ cs c w10 (by omega) HRA.out HRC.out).mono ?_
      rintro e w11 ⟨rfl, q11, hw11⟩
      have HE12 := hid (HE11.out.below (W' := w11) (by rw [hw11]; exact below_drewN (Below.refl _ _) _))
      have HS12 := hid (Sc.below (w' := w11) HS11.out (by rw [hw11]; exact below_drewN (Below.refl _ _) _))
      clear HE11 HS11 HRA HRC hw11
      go_wp2_with fail
      refine (zzText_any (some ⟨tg, 0, none⟩) tl tl HS12.out).mono ?_
      rintro e w12 ⟨rfl, rfl⟩
      go_wp2_with fail
      refine (sameBytes_eq _ _ _ _ zs tl w11 (by omega) HE12.out.rdText HE12.out.rdWant).mono ?_
      rintro e w12 ⟨rfl, q12, rfl⟩
      go_wp2
      go_ret
      exact ⟨rfl, below_drewN HE12.out.bel _⟩
end Go.Proofs.Qxb6602231a
