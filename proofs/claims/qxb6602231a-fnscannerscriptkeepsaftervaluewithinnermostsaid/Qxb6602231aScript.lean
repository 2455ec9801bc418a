import Derived.Test.Qxb6602231aScriptEnv
import Derived.Deep.DeepCutAuto
import Derived.Deep.LoopGhost
namespace Go.Proofs.Qxb6602231a
open Go.RowKit

theorem bytes26_yes (a b : Option Addr) (n c m d : Nat) (w : World) (hn : n ≤ 524288) (hm : m ≤ 524288) :
    Calls Try.prog 26 #[.slice a n c, .slice b m d] w fun e w' => e = .returned (.bool true) ∧ w = w' := by
  go_enter Try.func26, Try.ntmps26
  go_wp2
  go_ret
  exact ⟨rfl, rfl⟩

theorem snoc_of (bs : List Bool) (h : bs.length ≠ 0) : ∃ cs b, bs = cs ++ [b] := by
  cases hr : bs.reverse with
  | nil => rw [List.reverse_eq_nil_iff] at hr; rw [hr] at h; exact absurd rfl h
  | cons b l => exact ⟨l.reverse, b, by rw [← List.reverse_reverse bs, hr]; simp⟩

set_option maxRecDepth 100000 in
set_option maxHeartbeats 4000000 in
theorem script_law (ta0 oa0 : Option Addr) (tl tc ol oc S : Nat) (zs os : List Int) (w : World) (htl : tl ≤ 524288) (hol : ol ≤ 524288) (hS1 : S ≤ tl) (hS2 : S ≤ ol) (hS3 : (S = tl ∧ tl < ol) ∨ (S = ol ∧ ol ≤ tl))
    (hz : zs.length = tl) (hos : os.length = ol) (hta : ta0 = none → tl = 0) (hoa : oa0 = none → ol = 0) (hrt : Rd w ta0 tl (fun i => .int .u8 (zs.getD i 0))) (hro : Rd w oa0 ol (fun i => .int .u8 (os.getD i 0))) (hob : ∀ i : Nat, 0 ≤ os[i]?.getD 0 ∧ os[i]?.getD 0 ≤ 255) :
    Calls Try.prog 8 #[.slice ta0 tl tc, .slice oa0 ol oc] w fun e w' => e = .returned (.bool true) ∧ Below w.heap.size w w' := by
  have HZ := hid hz
  have HOS := hid hos
  have HRO := hid hro
  have HOA := hid hoa
  have HOB := hid hob
  have HS3 := hid hS3
  have C11 := cloneBytes_any ta0 tl tc zs w (by omega) hz hta hrt
  clear hz hos hrt hro hta hoa hob hS3
  go_enter Try.func8, Try.ntmps8
  go_wp2_with (go_at_call 26; refine (bytes26_yes _ _ _ _ _ _ _ htl hol).mono ?_; rintro e w' ⟨rfl, rfl⟩)
  refine C11.mono ?_
  rintro e w1 ⟨ta, rfl, own1, bel1⟩
  clear C11
  have HB1 := hid bel1
  have HW1 := hid own1
  have HR1 := hid (HRO.out.below bel1)
  clear bel1 own1 HRO
  go_wp2_with fail
  refine (cloneBytes_any oa0 ol oc os w1 (by omega) HOS.out HOA.out HR1.out).mono ?_
  rintro e w2 ⟨oa, rfl, own2, bel2⟩
  have HB2 := hid bel2
  have HW2 := hid own2
  have HR2 := hid (own_u8 (own_below HW1.out bel2)).2
  have HTA := hid (fun h => (own_nil HW1.out h).1 : ta = none → tl = 0)
  clear bel2 own2 HR1 HOA
  go_wp2_with fail
  refine (cloneBytes_any ta tl tl zs w2 (by omega) HZ.out HTA.out HR2.out).mono ?_
  rintro e w3 ⟨wa, rfl, own3, bel3⟩
  have HB3 := hid bel3
  have HW3 := hid own3
  clear bel3 own3 HR2 HTA
  go_upto_if 41 with fail
  go_cut [6] (fun s wc => s = .int .i64 S ∧ wc = w3)
  case first =>
    rcases HS3.out with ⟨h, h2⟩ | ⟨h, h2⟩
    · have h3 : decide (tl < ol) = true := by simpa using h2
      have h4 : (tl : Int) < ol := by omega
      have HH := hid h
      clear h
      go_wp2_with fail
      go_meet
      case rel => exact ⟨by rw [HH.out], rfl⟩
    · have h3 : decide (tl < ol) = false := by simpa using h2
      have h4 : ¬ (tl : Int) < ol := by omega
      have HH := hid h
      clear h
      go_wp2_with fail
      go_meet
      case rel => exact ⟨by rw [HH.out], rfl⟩
  case rest =>
    obtain ⟨rfl, hw⟩ := hcut
    subst hw
    go_wp2_with fail
    refine (zzMake_any ta none tl tl 0 0 0 0 8 [] wc rfl (by omega) (fun i hi => by omega)).mono ?_
    rintro e w4 ⟨rfl, v, hS, bel4⟩
    have HE := hid (env2_of HW1.out HB1.out HW2.out HB2.out HW3.out HB3.out bel4)
    have HS := hid hS
    have hsb4 := lt_of_block hS.blk
    clear HB1 HW1 HB2 HW2 HB3 HW3 bel4 hS
    obtain ⟨sb, hsb⟩ : ∃ sb, sb = wc.heap.size := ⟨_, rfl⟩
    rw [← hsb] at HE HS hsb4 ⊢
    clear hsb
    obtain ⟨i0, hi, hz0, hz1, hz2⟩ := info_parts info4
    go_wp2_with (at_make; refine wpList_make_own _ rfl _ _ 30 rfl w.heap.size 4 i0 (.bool false) 1 Try.underlying30 hi hz0 hz1 _ _ _ S rfl rfl (by omega) ?_ ?_ ?_ ?_)
    · rw [hz2]; omega
    · unfold maxLen; omega
    · have := HE.out.bel.size; omega
    intro w5 hown5 hgrow5
    have hb5 : Below w4.heap.size w4 w5 := (Below.refl _ _).grown hgrow5 (Nat.le_refl _) (by simp)
    have HE5 := hid (HE.out.below hb5)
    have HS5 := hid (Sc.below HS.out hb5)
    have HK5 := hid (show Stk w5 w.heap.size w4.heap.size S 0 [] from hown5)
    have hkb : w4.heap.size ≠ sb := by omega
    have hkb2 : sb ≤ w4.heap.size := by omega
    clear hown5 hgrow5 hb5 HE HS hi hz0 hz1 hz2
    obtain ⟨kb, hkbe⟩ : ∃ kb, kb = w4.heap.size := ⟨_, rfl⟩
    rw [← hkbe] at HK5 hkb hkb2 ⊢
    clear hkbe hsb4
    go_wp2
    go_loopg [8, 9] S (fun gk st i wr => ∃ (k n : Nat) (bs : List Bool) (v : Value) (ex : Int), gk + k = S ∧ n ≤ k ∧ i = .int .i64 k ∧ st = .slice (some ⟨kb, 0, none⟩) n S ∧ Stk wr w.heap.size kb S n bs ∧ Sc wr sb sb (.slice ta tl tl) k ex v bs (aft bs) ∧ Env2 w wr sb ta wa oa tl ol zs os)
    case atStart => exact ⟨0, 0, [], v, 0, rfl, Nat.le_refl _, rfl, rfl, HK5.out, HS5.out, HE5.out⟩
    case round =>
      obtain ⟨k, n, bs, v', ex, hgk, hnk, rfl, rfl, hK, hS, hE⟩ := hrel
      clear HK5 HS5 HE5
      have HG := hid hgk
      clear hgk
      by_cases hlt : k < S
      · have hlt' : (k : Int) < S := by omega
        have hkt : k < tl := by omega
        have hko : k < ol := by omega
        have hkt' : (k : Int) < tl := by omega
        have hko' : (k : Int) < ol := by omega
        obtain ⟨tg, wg, og, rfl, rfl, rfl, _, _, co⟩ := hE.at hkt hko
        have hob := HOB.out k
        obtain ⟨o, ho⟩ : ∃ o, os.getD k 0 = o := ⟨_, rfl⟩
        rw [ho] at co
        have hob' : 0 ≤ o ∧ o ≤ 255 := by rw [← ho]; simpa using hob
        clear ho hob
        have HK := hid hK
        have HS := hid hS
        have HE := hid hE
        have hsb := lt_of_block hS.blk
        clear hK hS hE
        go_upto_region 22 with fail
        obtain ⟨w6, hw6⟩ : ∃ w6, w6 = wr.alloc (.cells #[.int .u8 0, .int .i64 0, .slice none 0 0] 37) := ⟨_, rfl⟩
        have HT6 := hid (show Tk w6 wr.heap.size (.int .u8 0) (.int .i64 0) (.slice none 0 0) by rw [hw6]; exact tk_new _ _ _ _)
        have hb6 : Below wr.heap.size wr w6 := by rw [hw6]; exact (Below.refl _ _).alloc (Nat.le_refl _) _
        have HK6 := hid (HK.out.below hb6)
        have HS6 := hid (Sc.below HS.out hb6)
        have HE6 := hid (HE.out.below hb6)
        rw [← hw6]
        clear hw6 hb6 HK HS HE co
        have htb : wr.heap.size ≠ sb := by omega
        have htb2 : sb ≤ wr.heap.size := by omega
        obtain ⟨tb, htbe⟩ : ∃ tb, tb = wr.heap.size := ⟨_, rfl⟩
        simp only [← htbe] at HT6 htb htb2 ⊢
        clear htbe hsb
        obtain ⟨T, hT⟩ : ∃ T : Bool, T = ((bits .and .u8 o 1 == 0) || ((n : Int) == 0)) := ⟨_, rfl⟩
        have HTT := hid hT
        clear hT
        go_cut [64] (fun t wc => t = .bool T ∧ wc = w6)
        case first =>
          have hT := HTT.out
          cases hb1 : (bits .and .u8 o 1 == 0) with
          | true =>
            rw [hb1] at hT
            simp at hT
            have HTT2 := hid hT
            clear hT
            go_wp2_with fail
            go_meet
            case rel => exact ⟨by rw [HTT2.out], rfl⟩
          | false =>
            cases hb2 : ((n : Int) == 0) with
            | true =>
              rw [hb1, hb2] at hT
              simp at hT
              have HTT2 := hid hT
              clear hT
              go_wp2_with fail
              go_meet
              case rel => exact ⟨by rw [HTT2.out], rfl⟩
            | false =>
              rw [hb1, hb2] at hT
              simp at hT
              have HTT2 := hid hT
              clear hT
              go_wp2_with fail
              go_meet
              case rel => exact ⟨by rw [HTT2.out], rfl⟩
        case rest =>
          obtain ⟨rfl, hw⟩ := hcut
          subst hw
          go_upto_if 64 with fail
          go_cut [8, 12, 13, 14] (fun st kd e _ wc => ∃ (n2 : Nat) (bs2 : List Bool) (v2 : Value) (K E : Int), st = .slice (some ⟨kb, 0, none⟩) n2 S ∧ kd = .int .u8 K ∧ e = .int .u8 E ∧ n2 ≤ k + 1 ∧ Tk wc tb (.int .u8 K) (.int .i64 k) (.slice (some ⟨tg, k, none⟩) 1 (tl - k)) ∧ Sc wc sb sb (.slice (some ⟨tg, 0, none⟩) tl tl) ((k : Int) + 1) E v2 bs2 (aft bs2) ∧ Stk wc w.heap.size kb S n2 bs2 ∧ Env2 w wc sb (some ⟨tg, 0, none⟩) (some ⟨wg, 0, none⟩) (some ⟨og, 0, none⟩) tl ol zs os)
          case first =>
           cases T with
           | true =>
            clear HTT
            cases hy : (bits .and .u8 o 2 != 0) with
            | true =>
              have hbl : bs.length < 1048576 := by rw [HK6.out.len]; omega
              go_wp2_with fail
              refine (zzBegin_any tg tl k 3 1 6 HS6.out hkt (by omega) hbl).mono ?_
              rintro e w7 ⟨rfl, v7, hS7, hK7⟩
              rw [show ((3 : Int) == 3) = true from rfl] at hS7
              have t7 := HT6.out.keep hK7 htb
              have e00 := t7.c0
              have e01 := t7.c1
              have e02 := t7.c2
              have e0f := t7.fr
              have htk : tb ≠ kb := by
                obtain ⟨cur, hcur⟩ := HK6.out.blk
                intro e
                have h1 : wc.heap[tb]? = _ := HT6.out
                rw [e, hcur] at h1
                simp at h1
              have hov : v7.ownBlock ≠ some tb := row_ne_tk hS7.row t7
              have HTX := hid (t7.setAll (.int .u8 3) (.int .i64 k) (.slice (some ⟨tg, k, none⟩) 1 (tl - k)))
              have HSX := hid (((Raw.setNew hS7 htb hov 0 (.int .u8 3)).setNew htb hov 1 (.int .i64 k)).setNew htb hov 2 (.slice (some ⟨tg, k, none⟩) 1 (tl - k)))
              have HKX := hid ((((HK6.out.keep hK7 hkb).setOther htk.symm 0 (.int .u8 3)).setOther htk.symm 1 (.int .i64 k)).setOther htk.symm 2 (.slice (some ⟨tg, k, none⟩) 1 (tl - k)))
              have HEX := hid ((((HE6.out.keep hK7).setCell htb2 0 (.int .u8 3)).setCell htb2 1 (.int .i64 k)).setCell htb2 2 (.slice (some ⟨tg, k, none⟩) 1 (tl - k)))
              clear hS7 hK7 t7 hov
              go_upto_region 31 with fail
              obtain ⟨X, hX⟩ : ∃ X, X = ((w7.setCell ⟨tb, 0, none⟩ (.int .u8 3)).setCell ⟨tb, 1, none⟩ (.int .i64 k)).setCell ⟨tb, 2, none⟩ (.slice (some ⟨tg, k, none⟩) 1 (tl - k)) := ⟨_, rfl⟩
              rw [← hX] at HTX HSX HKX HEX ⊢
              clear hX e00 e01 e02 e0f
              obtain ⟨i1, hi, hz0, hz1, hz2⟩ := info_parts info4
              go_wp2_with (at_builtin; refine wpList_append_fits _ rfl _ _ 30 rfl w.heap.size 4 i1 1 Try.underlying30 hi hz1 kb n S (bs.map .bool) rfl (HKX.out.alloc _) ⟨X.heap.size, 0, none⟩ 1 1 [.bool true] rfl rfl (cell_one_new _ _ _) (by intro u hu; simp at hu; subst hu; rfl) (by omega) ?_)
              intro w8 hown8 hgrow8
              obtain ⟨cur, hcur⟩ := (HKX.out.alloc (.cells #[.bool true] 4)).blk
              have R1 := hid ((Tk.alloc HTX.out _).grownStk hgrow8 hcur)
              have R2 := hid (Sc.grownStk (Raw.alloc HSX.out _) hgrow8 hcur)
              have R3 := hid (show Stk w8 w.heap.size kb S (n + 1) (bs ++ [true]) by unfold Stk; rw [List.map_append]; exact hown8)
              have R4 := hid ((HEX.out.alloc _).grown hgrow8 hkb2)
              have R5 := hid (show aft (bs ++ [true]) = 6 by rw [aft_snoc]; rfl)
              clear hown8 hgrow8 hcur HTX HSX HKX HEX hi hz0 hz1 hz2
              go_wp2_with fail
              go_meet
              case rel => exact ⟨n + 1, bs ++ [true], v7, 3, 1, rfl, rfl, rfl, by omega, R1.out, by rw [R5.out]; exact R2.out, R3.out, R4.out⟩
            | false =>
              have hbl : bs.length < 1048576 := by rw [HK6.out.len]; omega
              go_wp2_with fail
              refine (zzBegin_any tg tl k 1 3 7 HS6.out hkt (by omega) hbl).mono ?_
              rintro e w7 ⟨rfl, v7, hS7, hK7⟩
              rw [show ((1 : Int) == 3) = false from rfl] at hS7
              have t7 := HT6.out.keep hK7 htb
              have e00 := t7.c0
              have e01 := t7.c1
              have e02 := t7.c2
              have e0f := t7.fr
              have htk : tb ≠ kb := by
                obtain ⟨cur, hcur⟩ := HK6.out.blk
                intro e
                have h1 : wc.heap[tb]? = _ := HT6.out
                rw [e, hcur] at h1
                simp at h1
              have hov : v7.ownBlock ≠ some tb := row_ne_tk hS7.row t7
              have HTX := hid (t7.setAll (.int .u8 1) (.int .i64 k) (.slice (some ⟨tg, k, none⟩) 1 (tl - k)))
              have HSX := hid (((Raw.setNew hS7 htb hov 0 (.int .u8 1)).setNew htb hov 1 (.int .i64 k)).setNew htb hov 2 (.slice (some ⟨tg, k, none⟩) 1 (tl - k)))
              have HKX := hid ((((HK6.out.keep hK7 hkb).setOther htk.symm 0 (.int .u8 1)).setOther htk.symm 1 (.int .i64 k)).setOther htk.symm 2 (.slice (some ⟨tg, k, none⟩) 1 (tl - k)))
              have HEX := hid ((((HE6.out.keep hK7).setCell htb2 0 (.int .u8 1)).setCell htb2 1 (.int .i64 k)).setCell htb2 2 (.slice (some ⟨tg, k, none⟩) 1 (tl - k)))
              clear hS7 hK7 t7 hov
              go_upto_region 31 with fail
              obtain ⟨X, hX⟩ : ∃ X, X = ((w7.setCell ⟨tb, 0, none⟩ (.int .u8 1)).setCell ⟨tb, 1, none⟩ (.int .i64 k)).setCell ⟨tb, 2, none⟩ (.slice (some ⟨tg, k, none⟩) 1 (tl - k)) := ⟨_, rfl⟩
              rw [← hX] at HTX HSX HKX HEX ⊢
              clear hX e00 e01 e02 e0f
              obtain ⟨i1, hi, hz0, hz1, hz2⟩ := info_parts info4
              go_wp2_with (at_builtin; refine wpList_append_fits _ rfl _ _ 30 rfl w.heap.size 4 i1 1 Try.underlying30 hi hz1 kb n S (bs.map .bool) rfl (HKX.out.alloc _) ⟨X.heap.size, 0, none⟩ 1 1 [.bool false] rfl rfl (cell_one_new _ _ _) (by intro u hu; simp at hu; subst hu; rfl) (by omega) ?_)
              intro w8 hown8 hgrow8
              obtain ⟨cur, hcur⟩ := (HKX.out.alloc (.cells #[.bool false] 4)).blk
              have R1 := hid ((Tk.alloc HTX.out _).grownStk hgrow8 hcur)
              have R2 := hid (Sc.grownStk (Raw.alloc HSX.out _) hgrow8 hcur)
              have R3 := hid (show Stk w8 w.heap.size kb S (n + 1) (bs ++ [false]) by unfold Stk; rw [List.map_append]; exact hown8)
              have R4 := hid ((HEX.out.alloc _).grown hgrow8 hkb2)
              have R5 := hid (show aft (bs ++ [false]) = 7 by rw [aft_snoc]; rfl)
              clear hown8 hgrow8 hcur HTX HSX HKX HEX hi hz0 hz1 hz2
              go_wp2_with fail
              go_meet
              case rel => exact ⟨n + 1, bs ++ [false], v7, 1, 3, rfl, rfl, rfl, by omega, R1.out, by rw [R5.out]; exact R2.out, R3.out, R4.out⟩
           | false =>
            have hTT : ¬ n = 0 := by
              intro e0
              have := HTT.out
              rw [e0] at this
              simp at this
            clear HTT
            obtain ⟨m, rfl⟩ : ∃ m, n = m + 1 := ⟨n - 1, by omega⟩
            obtain ⟨cs, b, rfl⟩ := snoc_of bs (by rw [HK6.out.len]; omega)
            have HCL := hid (show cs.length = m by have := HK6.out.len; simp at this; exact this)
            obtain ⟨A, hA⟩ : ∃ A, aft cs = A := ⟨_, rfl⟩
            have HA := hid hA
            clear hA hTT
            cases hb : b with
            | true =>
              subst hb
              have c8 := HK6.out.cell m (by omega)
              rw [show (cs ++ [true]).getD m false = true by have := HCL.out; subst this; simp] at c8
              have hbl : cs.length < 1048576 := by rw [HCL.out]; omega
              go_wp2_with fail
              refine (zzEnd_any tg tl k 4 A true HS6.out hkt (by omega) hbl HA.out).mono ?_
              rintro e w7 ⟨rfl, v7, hS7, hK7⟩
              have t7 := HT6.out.keep hK7 htb
              have e00 := t7.c0
              have e01 := t7.c1
              have e02 := t7.c2
              have e0f := t7.fr
              have htk : tb ≠ kb := by
                obtain ⟨cur, hcur⟩ := HK6.out.blk
                intro e
                have h1 : wc.heap[tb]? = _ := HT6.out
                rw [e, hcur] at h1
                simp at h1
              have hov : v7.ownBlock ≠ some tb := row_ne_tk hS7.row t7
              have HTX := hid (t7.setAll (.int .u8 4) (.int .i64 k) (.slice (some ⟨tg, k, none⟩) 1 (tl - k)))
              have HSX := hid (((Raw.setNew hS7 htb hov 0 (.int .u8 4)).setNew htb hov 1 (.int .i64 k)).setNew htb hov 2 (.slice (some ⟨tg, k, none⟩) 1 (tl - k)))
              have HKX := hid ((((HK6.out.keep hK7 hkb).setOther htk.symm 0 (.int .u8 4)).setOther htk.symm 1 (.int .i64 k)).setOther htk.symm 2 (.slice (some ⟨tg, k, none⟩) 1 (tl - k)))
              have HEX := hid ((((HE6.out.keep hK7).setCell htb2 0 (.int .u8 4)).setCell htb2 1 (.int .i64 k)).setCell htb2 2 (.slice (some ⟨tg, k, none⟩) 1 (tl - k)))
              clear hS7 hK7 t7 hov c8
              go_upto_region 36 with fail
              obtain ⟨X, hX⟩ : ∃ X, X = ((w7.setCell ⟨tb, 0, none⟩ (.int .u8 4)).setCell ⟨tb, 1, none⟩ (.int .i64 k)).setCell ⟨tb, 2, none⟩ (.slice (some ⟨tg, k, none⟩) 1 (tl - k)) := ⟨_, rfl⟩
              rw [← hX] at HTX HSX HKX HEX ⊢
              clear hX e00 e01 e02 e0f
              have HKP := hid HKX.out.pop
              go_wp2_with fail
              refine (after_n (some ⟨kb, 0, none⟩) m S cs A X HCL.out HA.out (by omega) HKP.out.rd).mono ?_
              rintro e w8 ⟨rfl, rfl⟩
              go_wp2_with fail
              go_meet
              case rel => exact ⟨m, cs, v7, 4, A, rfl, rfl, rfl, by omega, HTX.out, by rw [HA.out]; exact HSX.out, HKP.out, HEX.out⟩
            | false =>
              subst hb
              have c8 := HK6.out.cell m (by omega)
              rw [show (cs ++ [false]).getD m false = false by have := HCL.out; subst this; simp] at c8
              have hbl : cs.length < 1048576 := by rw [HCL.out]; omega
              go_wp2_with fail
              refine (zzEnd_any tg tl k 2 A false HS6.out hkt (by omega) hbl HA.out).mono ?_
              rintro e w7 ⟨rfl, v7, hS7, hK7⟩
              have t7 := HT6.out.keep hK7 htb
              have e00 := t7.c0
              have e01 := t7.c1
              have e02 := t7.c2
              have e0f := t7.fr
              have htk : tb ≠ kb := by
                obtain ⟨cur, hcur⟩ := HK6.out.blk
                intro e
                have h1 : wc.heap[tb]? = _ := HT6.out
                rw [e, hcur] at h1
                simp at h1
              have hov : v7.ownBlock ≠ some tb := row_ne_tk hS7.row t7
              have HTX := hid (t7.setAll (.int .u8 2) (.int .i64 k) (.slice (some ⟨tg, k, none⟩) 1 (tl - k)))
              have HSX := hid (((Raw.setNew hS7 htb hov 0 (.int .u8 2)).setNew htb hov 1 (.int .i64 k)).setNew htb hov 2 (.slice (some ⟨tg, k, none⟩) 1 (tl - k)))
              have HKX := hid ((((HK6.out.keep hK7 hkb).setOther htk.symm 0 (.int .u8 2)).setOther htk.symm 1 (.int .i64 k)).setOther htk.symm 2 (.slice (some ⟨tg, k, none⟩) 1 (tl - k)))
              have HEX := hid ((((HE6.out.keep hK7).setCell htb2 0 (.int .u8 2)).setCell htb2 1 (.int .i64 k)).setCell htb2 2 (.slice (some ⟨tg, k, none⟩) 1 (tl - k)))
              clear hS7 hK7 t7 hov c8
              go_upto_region 36 with fail
              obtain ⟨X, hX⟩ : ∃ X, X = ((w7.setCell ⟨tb, 0, none⟩ (.int .u8 2)).setCell ⟨tb, 1, none⟩ (.int .i64 k)).setCell ⟨tb, 2, none⟩ (.slice (some ⟨tg, k, none⟩) 1 (tl - k)) := ⟨_, rfl⟩
              rw [← hX] at HTX HSX HKX HEX ⊢
              clear hX e00 e01 e02 e0f
              have HKP := hid HKX.out.pop
              go_wp2_with fail
              refine (after_n (some ⟨kb, 0, none⟩) m S cs A X HCL.out HA.out (by omega) HKP.out.rd).mono ?_
              rintro e w8 ⟨rfl, rfl⟩
              go_wp2_with fail
              go_meet
              case rel => exact ⟨m, cs, v7, 2, A, rfl, rfl, rfl, by omega, HTX.out, by rw [HA.out]; exact HSX.out, HKP.out, HEX.out⟩
          case rest =>
            obtain ⟨n2, bs2, v2, K, E, rfl, rfl, rfl, hn2, hT, hS, hK, hE⟩ := hcut
            clear HT6 HK6 HS6 HE6 HTT
            have hn3 : n2 ≤ S := by omega
            have HNN := hid hn2
            have c0 := hT.c0
            have c1 := hT.c1
            have c2 := hT.c2
            have ct := hE.cellT hkt
            have cw := hE.cellW hkt
            obtain ⟨z, hz⟩ : ∃ z, zs.getD k 0 = z := ⟨_, rfl⟩
            rw [hz] at ct cw
            have hnp := neq_ptr ⟨tg, k, none⟩
            have ezz : (z != z) = false := by simp
            have eKK : (K != K) = false := by simp
            have ekk : ((k : Int) != (k : Int)) = false := by simp
            have HS := hid hS
            have HK := hid hK
            have HE := hid hE
            clear hz hT hS hK hE hn2
            go_wp2
            go_quiet (fail)
            obtain ⟨A2, hA2⟩ : ∃ A2, aft bs2 = A2 := ⟨_, rfl⟩
            have HA2 := hid hA2
            rw [hA2] at HS
            clear hA2
            go_wp2_with fail
            refine (zzCursor_any (Sc.drewN HS.out nq)).mono ?_
            rintro e w9 ⟨rfl, q9, hw9⟩
            have hb9 : Below wc.heap.size wc w9 := by rw [hw9]; exact below_drewN (below_drewN (Below.refl _ _) _) _
            have HS9 := hid (Sc.below HS.out hb9)
            have HK9 := hid (HK.out.below hb9)
            have HE9 := hid (HE.out.below hb9)
            clear hw9 hb9 HS HK HE c0 c1 c2 ct cw hnp ezz eKK ekk
            have e1 : ((k : Int) + 1 != (k : Int) + 1) = false := by simp
            have e2 : (E != E) = false := by simp
            have e3 : (A2 != A2) = false := by simp
            go_wp2_with fail
            refine (after_n (some ⟨kb, 0, none⟩) n2 S bs2 A2 w9 HK9.out.len HA2.out (by omega) HK9.out.rd).mono ?_
            rintro e w10 ⟨rfl, rfl⟩
            go_wp2_with fail
            by_cases h0 : n2 = 0
            · subst h0
              refine (depthTop_nil HS9.out (by rw [HK9.out.len]; rfl)).mono ?_
              rintro e w10 ⟨rfl, q10, hw10⟩
              have hb10 : Below w9.heap.size w9 w10 := by rw [hw10]; exact below_drewN (Below.refl _ _) _
              have HS10 := hid (Sc.below HS9.out hb10)
              have HK10 := hid (HK9.out.below hb10)
              have HE10 := hid (HE9.out.below hb10)
              clear hw10 hb10 HS9 HK9 HE9
              go_wp2
              go_roundg (gk - 1)
              case measure => have := HG.out; omega
              case rel => exact ⟨k + 1, 0, bs2, v2, E, by have := HG.out; omega, by omega, by go_num, rfl, HK10.out, by rw [HA2.out]; exact HS10.out, HE10.out⟩
            · obtain ⟨q, rfl⟩ : ∃ q, n2 = q + 1 := ⟨n2 - 1, by omega⟩
              refine (depthTop_some q HS9.out (by rw [HK9.out.len]; rfl) (by omega)).mono ?_
              rintro e w10 ⟨rfl, q10, hw10⟩
              have hb10 : Below w9.heap.size w9 w10 := by rw [hw10]; exact below_drewN (Below.refl _ _) _
              have HS10 := hid (Sc.below HS9.out hb10)
              have HK10 := hid (HK9.out.below hb10)
              have HE10 := hid (HE9.out.below hb10)
              have c8 := HK10.out.cell q (by omega)
              clear hw10 hb10 HS9 HK9 HE9
              obtain ⟨y, hy⟩ : ∃ y, bs2.getD q false = y := ⟨_, rfl⟩
              rw [hy] at c8 ⊢
              clear hy
              have eyy : (y != y) = false := by simp
              have eqq : ((q : Int) + 1 != (q : Int) + 1) = false := by simp
              go_wp2
              go_roundg (gk - 1)
              case measure => have := HG.out; omega
              case rel => exact ⟨k + 1, q + 1, bs2, v2, E, by have := HG.out; omega, by have := HNN.out; omega, by go_num, rfl, HK10.out, by rw [HA2.out]; exact HS10.out, HE10.out⟩
      · have hge : ¬ (k : Int) < S := by omega
        have HK := hid hK
        have HS := hid hS
        have HE := hid hE
        have HL := hid hK.len
        clear hK hS hE
        go_wp2_with fail
        refine (zzOpen_any n HL.out HS.out (by have := HG.out; omega)).mono ?_
        rintro e w6 ⟨rfl, own6, bel6⟩
        have hgd : ∀ i, i < n → (bs.map Value.bool)[i]? = some (.bool (bs.getD i false)) := by
          intro i hi
          have hl2 : i < bs.length := by rw [HL.out]; exact hi
          rw [List.getElem?_map, List.getD_eq_getElem?_getD, List.getElem?_eq_getElem hl2]; rfl
        have HRA := hid (rd_of_own own6 hgd)
        have HK6 := hid (HK.out.below bel6)
        have HS6 := hid (Sc.below HS.out bel6)
        have HE6 := hid (HE.out.below bel6)
        clear own6 bel6 hgd HK HS HE
        go_wp2_with fail
        refine (sameBools_eq _ _ _ _ bs n w6 (by have := HG.out; omega) HRA.out HK6.out.rd).mono ?_
        rintro e w7 ⟨rfl, q7, hw7⟩
        have hb7 : Below w6.heap.size w6 w7 := by rw [hw7]; exact below_drewN (Below.refl _ _) _
        have HS7 := hid (Sc.below HS6.out hb7)
        have HE7 := hid (HE6.out.below hb7)
        clear hw7 hb7 HRA HK6 HS6 HE6
        go_wp2_with fail
        refine (zzText_any ta tl tl HS7.out).mono ?_
        rintro e w8 ⟨rfl, rfl⟩
        go_wp2_with fail
        refine (sameBytes_eq _ _ _ _ zs tl w7 (by omega) (own_u8 HE7.out.tx).2 (own_u8 HE7.out.wt).2).mono ?_
        rintro e w8 ⟨rfl, q8, rfl⟩
        go_wp2
        go_ret
        exact ⟨rfl, below_drewN HE7.out.bel _⟩
end Go.Proofs.Qxb6602231a
