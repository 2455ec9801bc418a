import Derived.Test.Qxb6602231aEndLaw
namespace Go.Proofs.Qxb6602231a
open Go.RowKit

theorem bytes25_yes (a b : Option Addr) (n c m d : Nat) (x1 x2 x3 x4 x5 x6 x7 : Int) (w : World) (hn : n ≤ 524288) (hm : m ≤ 524288) :
    Calls Try.prog 25 #[.slice a n c, .int .i64 x1, .int .u8 x2, .slice b m d, .int .u8 x3, .int .u8 x4, .int .u8 x5, .int .u8 x6, .int .u8 x7] w fun e w' => e = .returned (.bool true) ∧ w = w' := by
  go_enter Try.func25, Try.ntmps25
  go_wp2
  go_ret
  exact ⟨rfl, rfl⟩

/-- zzAfterFor, with names for the length and the answer. -/
theorem after_n (a : Option Addr) (n c : Nat) (bs : List Bool) (A : Int) (w : World) (hn : bs.length = n) (hA : aft bs = A) (hb : n ≤ 1048576) (hr : Rd w a n (fun i => .bool (bs.getD i false))) :
    Calls Try.prog 24 #[.slice a n c] w fun e w' => e = .returned (.int .u8 A) ∧ w = w' := by
  subst hn
  subst hA
  exact after_any a c bs w hb hr

/-- ZZEnd at a position that is written as a sum. -/
theorem zzEnd_P {w : World} {sb B : Nat} {ex : Int} {v : Value} {af : Int} {bs : List Bool} (tg tl p : Nat) (k A P P2 : Int) (b : Bool) (h : Sc w sb B (.slice (some ⟨tg, 0, none⟩) tl tl) P ex v (bs ++ [b]) af) (hP : P = (p : Int)) (hP2 : P2 = P + 1) (hp : p < tl) (htl : tl ≤ 1048576) (hb : bs.length < 1048576) (hA : aft bs = A) :
    Calls Try.prog 23 #[.pointer (some ⟨sb, 0, none⟩), .int .u8 k] w fun e w' => e = .returned (.agg #[.int .u8 k, .int .i64 P, .slice (some ⟨tg, p, none⟩) 1 (tl - p)]) ∧
      ∃ v', Sc w' sb B (.slice (some ⟨tg, 0, none⟩) tl tl) P2 A v' bs A ∧ Kp B sb w w' := by
  subst hP2
  subst hP
  exact zzEnd_any tg tl p k A b h hp htl hb hA

set_option maxRecDepth 100000 in
set_option maxHeartbeats 1000000 in
theorem restore_law (ad : Addr) (oa : Option Addr) (tl tc n oc p : Nat) (zs : List Int) (bs : List Bool) (x2 x3 k nx a2 k2 : Int) (w : World) (htl : tl ≤ 524288) (hn : n ≤ 524288) (hp : p + 2 ≤ tl)
    (hz : zs.length = tl) (hbs : bs.length = n) (ho : oa = none → n = 0) (hrt : Rd w (some ad) tl (fun i => .int .u8 (zs.getD i 0))) (hro : Rd w oa n (fun i => .bool (bs.getD i false))) :
    Calls Try.prog 7 #[.slice (some ad) tl tc, .int .i64 p, .int .u8 x2, .slice oa n oc, .int .u8 x3, .int .u8 k, .int .u8 nx, .int .u8 a2, .int .u8 k2] w fun e w' => e = .returned (.bool true) ∧ Below w.heap.size w w' := by
  have HZ := hid hz
  have HBS := hid hbs
  have HO := hid hro
  have HOn := hid ho
  have p1 : (p : Int) < tl := by omega
  have p2 : (p : Int) + 1 < tl := by omega
  have p3 : (p : Int) ≤ (tl : Int) - 2 := by omega
  have q1 : p < tl := by omega
  have q2 : p + 1 < tl := by omega
  have HP := hid hp
  have C11 := cloneBytes_some ad tl tc zs w (by omega) hz hrt
  clear hz hbs hrt hro ho hp
  go_enter Try.func7, Try.ntmps7
  go_wp2_with (go_at_call 25; refine (bytes25_yes _ _ _ _ _ _ _ _ _ _ _ _ _ _ htl hn).mono ?_; rintro e w' ⟨rfl, rfl⟩)
  refine C11.mono ?_
  rintro e w1 ⟨rfl, own1, bel1⟩
  clear C11
  have HB1 := hid bel1
  have HR1 := hid (HO.out.below bel1)
  have HW1 := hid own1
  clear HO bel1 own1
  go_wp2_with fail
  refine (cloneBools_any oa n oc bs w1 (by omega) HBS.out HOn.out HR1.out).mono ?_
  rintro e w2 ⟨oa', rfl, own2, bel2⟩
  have HB2 := hid bel2
  have HW2 := hid own2
  have HR2 := hid (rd_of_own (own_below HW1.out bel2) (f := fun i => .int .u8 (zs.getD i 0)) (by
    intro i hi
    have hl : i < zs.length := by rw [HZ.out]; exact hi
    simp [hl]))
  clear bel2 own2 HOn HR1
  go_wp2_with fail
  refine (cloneBytes_some ⟨w.heap.size, 0, none⟩ tl tl zs w2 (by omega) HZ.out HR2.out).mono ?_
  rintro e w3 ⟨rfl, own3, bel3⟩
  have HB3 := hid bel3
  have HW3 := hid own3
  have HR3 := hid (rd_of_own (own_below HW2.out bel3) (f := fun i => .bool (bs.getD i false)) (by
    intro i hi
    have hl : i < bs.length := by rw [HBS.out]; exact hi
    simp [hl]))
  clear bel3 own3 HR2
  go_wp2_with fail
  refine (zzMake_any (some ⟨w.heap.size, 0, none⟩) oa' tl tl n n p x2 x3 bs w3 HBS.out (by omega) HR3.out).mono ?_
  rintro e w4 ⟨rfl, v, hS, bel4⟩
  have HE := hid (env_of HW1.out HB1.out HW2.out HB2.out HW3.out HB3.out bel4)
  have HS := hid hS
  clear HB1 HW1 HB2 HW2 HB3 HW3 HR3 bel4 hS
  obtain ⟨sb, hsb⟩ : ∃ sb, sb = w3.heap.size := ⟨_, rfl⟩
  obtain ⟨wg, hwg⟩ : ∃ wg, wg = w2.heap.size := ⟨_, rfl⟩
  obtain ⟨tg, htg⟩ : ∃ tg, tg = w.heap.size := ⟨_, rfl⟩
  rw [← hsb] at HE HS ⊢
  rw [← hwg] at HE ⊢
  rw [← htg] at HE HS
  simp only [← htg]
  clear hsb hwg htg
  go_wp2_with fail
  refine (zzBegin_any tg tl p k nx a2 HS.out q1 (by omega) (by rw [HBS.out]; omega)).mono ?_
  rintro e w5 ⟨rfl, v5, hS5, hK5⟩
  have HE5 := hid (HE.out.keep hK5)
  have HS5 := hid hS5
  clear HE HS hS5 hK5
  go_wp2_with fail
  obtain ⟨W, hW⟩ : ∃ W, W = w5.alloc (.cells #[.int .u8 k, .int .i64 p, .slice (some ⟨tg, p, none⟩) 1 (tl - p)] 37) := ⟨_, rfl⟩
  have HT := hid (show Tk W w5.heap.size (.int .u8 k) (.int .i64 p) (.slice (some ⟨tg, p, none⟩) 1 (tl - p)) by rw [hW]; exact tk_new _ _ _ _)
  have HE6 := hid (HE5.out.below (W' := W) (by rw [hW]; exact (Below.refl _ _).alloc (Nat.le_refl _) _))
  have HS6 := hid (Sc.below (w' := W) HS5.out (by rw [hW]; exact (Below.refl _ _).alloc (Nat.le_refl _) _))
  have hr1 : w5.heap.size ≠ sb := by have := lt_of_block HS5.out.blk; omega
  obtain ⟨r1, hr⟩ : ∃ r1, r1 = w5.heap.size := ⟨_, rfl⟩
  rw [← hW]
  simp only [← hr] at HT hr1 ⊢
  clear hW HE5 HS5 hr
  obtain ⟨A, hA⟩ : ∃ A, aft bs = A := ⟨_, rfl⟩
  have HA := hid hA
  clear hA
  refine (zzEnd_P tg tl (p + 1) k2 A ((p : Int) + 1) ((p : Int) + 2) (k == 3) HS6.out (by omega) (by omega) q2 (by omega) (by rw [HBS.out]; omega) HA.out).mono ?_
  rintro e w7 ⟨rfl, v7, hS7, hK7⟩
  have HT7 := hid (HT.out.keep hK7 hr1)
  have HE7 := hid (HE6.out.keep hK7)
  have HS7 := hid hS7
  clear HT HE6 HS6 hS7 hK7
  go_wp2
  obtain ⟨W8, hW8⟩ : ∃ W8, W8 = w7.alloc (.cells #[.int .u8 k2, .int .i64 ((p : Int) + 1), .slice (some ⟨tg, p + 1, none⟩) 1 (tl - (p + 1))] 37) := ⟨_, rfl⟩
  have HT2 := hid (show Tk W8 w7.heap.size (.int .u8 k2) (.int .i64 ((p : Int) + 1)) (.slice (some ⟨tg, p + 1, none⟩) 1 (tl - (p + 1))) by rw [hW8]; exact tk_new _ _ _ _)
  have HT1 := hid (show Tk W8 r1 (.int .u8 k) (.int .i64 p) (.slice (some ⟨tg, p, none⟩) 1 (tl - p)) by rw [hW8]; exact HT7.out.alloc _)
  have HE8 := hid (HE7.out.below (W' := W8) (by rw [hW8]; exact (Below.refl _ _).alloc (Nat.le_refl _) _))
  have HS8 := hid (Sc.below (w' := W8) HS7.out (by rw [hW8]; exact (Below.refl _ _).alloc (Nat.le_refl _) _))
  rw [← hW8]
  clear hW8 HE7 HS7 HT7
  have c0 := HT1.out.c0
  have c1 := HT1.out.c1
  have c2 := HT1.out.c2
  have d0 := HT2.out.c0
  have d1 := HT2.out.c1
  have d2 := HT2.out.c2
  have ct := HE8.out.text p q1
  have cw := HE8.out.want p q1
  have dt := HE8.out.text (p + 1) q2
  have dw := HE8.out.want (p + 1) q2
  obtain ⟨z, hz⟩ : ∃ z, zs.getD p 0 = z := ⟨_, rfl⟩
  rw [hz] at ct cw
  obtain ⟨z2, hz2⟩ : ∃ z2, zs.getD (p + 1) 0 = z2 := ⟨_, rfl⟩
  rw [hz2] at dt dw
  clear hz hz2 HT1 HT2
  have ezz : (z != z) = false := by simp
  have ezz2 : (z2 != z2) = false := by simp
  have ekk : (k != k) = false := by simp
  have ekk2 : (k2 != k2) = false := by simp
  have epp : ((p : Int) != (p : Int)) = false := by simp
  have epp2 : ((p : Int) + 1 != (p : Int) + 1) = false := by simp
  go_quiet (fail)
  go_wp2
  go_quiet (fail)
  go_wp2_with fail
  refine (after_n oa' n n bs A (W8.drewN _) HBS.out HA.out (by omega) (HE8.out.rdOpen.below (below_drewN (Below.refl _ _) _))).mono ?_
  rintro e w9 ⟨rfl, hw9⟩
  have HE9 := hid (HE8.out.below (W' := w9) (by rw [← hw9]; exact below_drewN (Below.refl _ _) _))
  have HS9 := hid (Sc.below (w' := w9) HS8.out (by rw [← hw9]; exact below_drewN (Below.refl _ _) _))
  clear hw9 HE8 HS8 ct cw dt dw c0 c1 c2 d0 d1 d2 ekk ekk2 epp epp2 ezz ezz2
  have e1 : ((p : Int) + 2 != (p : Int) + 2) = false := by simp
  have e2 : (A != A) = false := by simp
  go_wp2_with fail
  refine (zzCursor_any HS9.out).mono ?_
  rintro e w10 ⟨rfl, q10, hw10⟩
  have HE10 := hid (HE9.out.below (W' := w10) (by rw [hw10]; exact below_drewN (Below.refl _ _) _))
  have HS10 := hid (Sc.below (w' := w10) HS9.out (by rw [hw10]; exact below_drewN (Below.refl _ _) _))
  clear hw10 HE9 HS9
  go_wp2_with fail
  refine (zzOpen_any n HBS.out HS10.out (by omega)).mono ?_
  rintro e w11 ⟨rfl, own11, bel11⟩
  have hgd : ∀ i, i < n → (bs.map Value.bool)[i]? = some (.bool (bs.getD i false)) := by
    intro i hi
    have hl2 : i < bs.length := by rw [HBS.out]; exact hi
    rw [List.getElem?_map, List.getD_eq_getElem?_getD, List.getElem?_eq_getElem hl2]; rfl
  have HRA := hid (rd_of_own own11 hgd)
  have HE11 := hid (HE10.out.below bel11)
  have HS11 := hid (Sc.below HS10.out bel11)
  clear own11 bel11 HE10 HS10 hgd
  go_wp2_with fail
  refine (sameBools_eq _ _ _ _ bs n w11 (by omega) HRA.out HE11.out.rdOpen).mono ?_
  rintro e w12 ⟨rfl, q12, hw12⟩
  have HE12 := hid (HE11.out.below (W' := w12) (by rw [hw12]; exact below_drewN (Below.refl _ _) _))
  have HS12 := hid (Sc.below (w' := w12) HS11.out (by rw [hw12]; exact below_drewN (Below.refl _ _) _))
  clear HE11 HS11 HRA hw12
  go_wp2_with fail
  refine (zzText_any (some ⟨tg, 0, none⟩) tl tl HS12.out).mono ?_
  rintro e w13 ⟨rfl, rfl⟩
  go_wp2_with fail
  refine (sameBytes_eq _ _ _ _ zs tl w12 (by omega) HE12.out.rdText HE12.out.rdWant).mono ?_
  rintro e w13 ⟨rfl, q13, rfl⟩
  go_wp2
  go_ret
  exact ⟨rfl, below_drewN HE12.out.bel _⟩
end Go.Proofs.Qxb6602231a
