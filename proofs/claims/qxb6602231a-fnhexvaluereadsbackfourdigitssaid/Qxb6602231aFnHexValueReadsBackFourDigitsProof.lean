/-
  THE PROOF OF 'Rows.FnHexValueReadsBackFourDigitsSaid': the frame was written by program (proof-skeleton.mjs); the walk is ours.
-/
import Derived.Test.Qxb6602231aRows
import Derived.WalkKit
import Derived.ProofKit
import Derived.OpenShut
import Derived.ShutString
import Derived.Test.Qxb6602231aHex
namespace Go.Proofs.Qxb6602231a.fnHexValueReadsBackFourDigits
open Go.ChangeShapes Go.WideShapes Go.ChangeAt Go.RowKit
open Go.ChangeMaps (open_string shut_string)
set_option linter.unusedVariables false      -- a walk need not use every 'w<i>' (that an integer argument fits its kind)

theorem own : ownKnob Try.prog.godebug = none := by kernel_rfl

/-- x is the byte of a hexadecimal digit whose value is d modulo 16. -/
def Dg (d x : Int) : Prop := hd x = d % 16 ∧ 0 ≤ x ∧ x ≤ 255

theorem and15_bd (x : Int) (h0 : 0 ≤ x) (h1 : x ≤ 65535) : 0 ≤ bits .and .i32 x 15 ∧ bits .and .i32 x 15 < 16 := by
  rw [and15 x h0 (by omega)]; omega

/-- A table of the sixteen digits: the byte at place n is a digit of value n. -/
def tabB (s : ByteArray) : Bool := (List.range 16).all fun n => hd ((s.data[n]?.getD 0).toNat : Int) == (n : Int)

theorem dg_tab (s : ByteArray) (ht : tabB s = true) (x : Int) (h0 : 0 ≤ x) (h1 : x ≤ 65535) (h : (bits .and .i32 x 15).toNat < s.size) :
    Dg x ((s[(bits .and .i32 x 15).toNat]'h).toNat : Int) := by
  have hn : (bits .and .i32 x 15).toNat = (x % 16).toNat := by rw [and15 x h0 (by omega)]
  have hx : (x % 16).toNat < 16 := by omega
  have e : hd ((s.data[(x % 16).toNat]?.getD 0).toNat : Int) = ((x % 16).toNat : Int) := by
    have := List.all_eq_true.1 ht (x % 16).toNat (by simpa using hx)
    simpa using this
  have e2 : s[(bits .and .i32 x 15).toNat]'h = s.data[(x % 16).toNat]?.getD 0 := by
    rw [← hn, Array.getElem?_eq_getElem (by simpa using h)]; rfl
  rw [e2]
  refine ⟨?_, by omega, ?_⟩
  · rw [e]; omega
  · have := UInt8.toNat_lt (s.data[(x % 16).toNat]?.getD 0); omega

theorem four (v x0 x1 x2 x3 : Int) (h0 : 0 ≤ v) (h1 : v ≤ 65535) (d0 : Dg (v / 4096) x0) (d1 : Dg (v / 256) x1) (d2 : Dg (v / 16) x2) (d3 : Dg v x3) :
    (wrap32 (pv [x0, x1, x2, x3]) == v) = true := by
  have e : pv [x0, x1, x2, x3] = v := by
    simp only [pv, d0.1, d1.1, d2.1, d3.1, List.length_cons, List.length_nil]
    omega
  rw [e, beq_iff_eq]
  unfold wrap32
  omega

set_option maxHeartbeats 400000 in
theorem core (a0 a1 : Int) (h0 : 0 ≤ a0) (h1 : a0 ≤ 65535) (h2 : 0 ≤ a1) (h3 : a1 ≤ 255) (w : World) :
    Calls Try.prog 4 #[.int .i32 a0, .int .u8 a1] w fun e w' => e = .returned (.bool true) ∧ Grown w w' := by
  have hmk : ∀ w : World, (Instr.makeSlice 22 (.int .i64 4) (.int .i64 4)).run Try.prog w = .ok (.slice (some ⟨w.heap.size, 0, none⟩) 4 4) (w.alloc (.cells #[.int .u8 0, .int .u8 0, .int .u8 0, .int .u8 0] 5)) := fun _ => by kernel_rfl
  go_enter Try.func4, Try.ntmps4
  go_wp2
  clear hmk
  have b0 := and15_bd (a0 / 4096) (by omega) (by omega)
  have b1 := and15_bd (a0 / 256) (by omega) (by omega)
  have b2 := and15_bd (a0 / 16) (by omega) (by omega)
  have b3 := and15_bd a0 (by omega) (by omega)
  go_loopw [6] (fun i wr => ∃ (k : Nat) (x0 x1 x2 x3 : Int), k ≤ 4 ∧ i = .int .i64 k ∧ wr = w.alloc (.cells #[.int .u8 x0, .int .u8 x1, .int .u8 x2, .int .u8 x3] 5) ∧ (1 ≤ k → Dg (a0 / 4096) x0) ∧ (2 ≤ k → Dg (a0 / 256) x1) ∧ (3 ≤ k → Dg (a0 / 16) x2) ∧ (4 ≤ k → Dg a0 x3)) (fun i _ => 4 - (intOf i).toNat)
  case atStart => exact ⟨0, 0, 0, 0, 0, by omega, rfl, rfl, by omega, by omega, by omega, by omega⟩
  case round =>
    obtain ⟨k, x0, x1, x2, x3, hk, rfl, rfl, d0, d1, d2, d3⟩ := hrel
    rcases (show k = 0 ∨ k = 1 ∨ k = 2 ∨ k = 3 ∨ k = 4 by omega) with rfl | rfl | rfl | rfl | rfl
    · clear d0 d1 d2 d3
      go_wp2
      all_goals
        go_roundw
        case rel => exact ⟨1, _, _, _, _, by omega, rfl, rfl, fun _ => dg_tab _ (by decide) _ (by omega) (by omega) _, by omega, by omega, by omega⟩
        case measure => simp [intOf]
    · have H0 : Hid _ := d0 (by omega)
      clear d0 d1 d2 d3
      go_wp2
      all_goals
        go_roundw
        case rel => exact ⟨2, _, _, _, _, by omega, rfl, rfl, fun _ => H0.out, fun _ => dg_tab _ (by decide) _ (by omega) (by omega) _, by omega, by omega⟩
        case measure => simp [intOf]
    · have H0 : Hid _ := d0 (by omega)
      have H1 : Hid _ := d1 (by omega)
      clear d0 d1 d2 d3
      go_wp2
      all_goals
        go_roundw
        case rel => exact ⟨3, _, _, _, _, by omega, rfl, rfl, fun _ => H0.out, fun _ => H1.out, fun _ => dg_tab _ (by decide) _ (by omega) (by omega) _, by omega⟩
        case measure => simp [intOf]
    · have H0 : Hid _ := d0 (by omega)
      have H1 : Hid _ := d1 (by omega)
      have H2 : Hid _ := d2 (by omega)
      clear d0 d1 d2 d3
      go_wp2
      all_goals
        go_roundw
        case rel => exact ⟨4, _, _, _, _, by omega, rfl, rfl, fun _ => H0.out, fun _ => H1.out, fun _ => H2.out, fun _ => dg_tab _ (by decide) _ (by omega) (by omega) _⟩
        case measure => simp [intOf]
    · have H0 : Hid (Dg (a0 / 4096) x0) := d0 (by omega)
      have H1 : Hid (Dg (a0 / 256) x1) := d1 (by omega)
      have H2 : Hid (Dg (a0 / 16) x2) := d2 (by omega)
      have H3 : Hid (Dg a0 x3) := d3 (by omega)
      have HE := four a0 x0 x1 x2 x3 h0 h1 H0.out H1.out H2.out H3.out
      have HC := zzHexValue_any (some ⟨w.heap.size, 0, none⟩) 4 4 [x0, x1, x2, x3] (w.alloc (.cells #[.int .u8 x0, .int .u8 x1, .int .u8 x2, .int .u8 x3] 5)) (by omega) (by simp) (by
          intro i hi
          refine ⟨_, _, rfl, ?_⟩
          rcases (show i = 0 ∨ i = 1 ∨ i = 2 ∨ i = 3 by omega) with rfl | rfl | rfl | rfl <;> simp [go_sem]) (by
          intro i
          rcases (show i = 0 ∨ i = 1 ∨ i = 2 ∨ i = 3 ∨ 4 ≤ i by omega) with rfl | rfl | rfl | rfl | h
          · exact H0.out.2
          · exact H1.out.2
          · exact H2.out.2
          · exact H3.out.2
          · rw [List.getElem?_eq_none (by simpa using h)]; simp) (by
          intro i hi
          rcases (show i = 0 ∨ i = 1 ∨ i = 2 ∨ i = 3 by omega) with rfl | rfl | rfl | rfl
          · show 0 ≤ hd x0; rw [H0.out.1]; omega
          · show 0 ≤ hd x1; rw [H1.out.1]; omega
          · show 0 ≤ hd x2; rw [H2.out.1]; omega
          · show 0 ≤ hd x3; rw [H3.out.1]; omega)
      clear d0 d1 d2 d3 b0 b1 b2 b3 H0 H1 H2 H3
      go_wp2_with fail
      refine HC.mono ?_
      rintro e w' ⟨rfl, rfl⟩
      clear HC
      go_wp2
      go_ret
      exact ⟨rfl, by repeat (first | exact Grown.refl _ | apply Grown.drew | apply Grown.alloc)⟩

/-! ### STEP 1: THE WALK: the Go text returns true. -/
theorem walk (a0 : Int) (a1 : Int) (w0 : (Lit.int .i32 a0).wf = true) (w1 : (Lit.int .u8 a1).wf = true) (w : World) :
    Calls Try.prog 4 #[.int .i32 a0, .int .u8 a1] w fun e w' => e = .returned (.bool true) ∧ Grown w w' := by
  by_cases h0 : a0 < 0
  · go_enter Try.func4, Try.ntmps4
    go_wp2
    go_ret
    exact ⟨rfl, by repeat (first | exact Grown.refl _ | apply Grown.drew | apply Grown.alloc)⟩
  by_cases h1 : 65535 < a0
  · go_enter Try.func4, Try.ntmps4
    go_wp2
    go_ret
    exact ⟨rfl, by repeat (first | exact Grown.refl _ | apply Grown.drew | apply Grown.alloc)⟩
  have hb := bounds_u8 w1
  exact core a0 a1 (by omega) (by omega) hb.1 hb.2 w

/-! ### THE ROW's STEP: WRITTEN OUT: LEAVE IT -/
set_option maxRecDepth 100000 in
theorem lifted (os : Os) (started : os.Started) (H : Type) (enc : TypeId × Value → H) :
    ReturnsInHanded {} Try.checked os 4 .any (Rows.fnHexValueReadsBackFourDigitsSpec.pre6 enc Try.prog Try.f4 Rows.fnHexValueReadsBackFourDigitsRow.domain false) (Rows.fnHexValueReadsBackFourDigitsSpec.post enc Try.prog Try.f4 false true false false) := by
  refine returnsInHanded_of_change (C := Try.checked) own started (by kernel_rfl) Try.func4
    (ChangeSpec.witness6 (enc := enc) (C := Try.checked) false ⟨#[], #[.int .i32 0, .int .u8 0], []⟩ 8 (by kernel_rfl) (by kernel_rfl) (by kernel_rfl) (by kernel_rfl)) ?_
  intro W base args ds gs before hval0 hW hcnd _
  have hval : ∀ (j : Nat) t v, Try.f4.params[j]? = some t → args[j]? = some v → Value.okWide Try.prog W .any base t v := hval0
  have hW' := hW
  obtain ⟨p, q, hA0, hV, rfl, hfz, hnd⟩ := hW
  have hA : DataW.TrodAll enc Try.prog W 0 (fun _ => true) true Try.f4.params.toList args.toList ds p := hA0
  rw [Try.params4] at hA hval
  obtain ⟨v0, vs0, d0, ds0, p0, q0, hargs, rfl, rfl, h0, r0⟩ := trodAll_cons hA
  obtain ⟨v1, vs1, d1, ds1, p1, q1, rfl, rfl, rfl, h1, r1⟩ := trodAll_cons r0
  obtain ⟨rfl, rfl, rfl⟩ := trodAll_nil r1
  obtain rfl : args = #[v0, v1] := by cases args; simp_all
  obtain ⟨rfl, rfl⟩ := trodVars_none hV
  obtain ⟨a0, rfl, rfl, rfl, w0⟩ := open_int Try.underlying21 (hval 0 21 v0 rfl rfl) h0
  obtain ⟨a1, rfl, rfl, rfl, w1⟩ := open_int Try.underlying5 (hval 1 5 v1 rfl rfl) h1
  clear hA0 hval0
  simp only [List.append_nil] at hW'
  refine (walk a0 a1 w0 w1 W).mono fun e W' ⟨he, hg⟩ => ?_
  subst he
  exact ⟨_, rfl, post_of_same (pa := []) (pv := []) hW' (fun _ _ _ => (trodAll_cons_mk (shut_bool Try.underlying4 _) trodAll_mk0)) (fun sp _ => (trodAll_cons_mk (shut_int Try.underlying21 w0) (trodAll_cons_mk (shut_int Try.underlying5 w1) trodAll_mk0))) (fun _ _ => rfl) rfl
    (hg.frame _) hg.2.1 (ok_one (by kernel_rfl) rfl (okWide_bool_mk Try.underlying4 _))⟩

theorem over : Rows.fnHexValueReadsBackFourDigitsRow.holds Try.pinned (OpenSpec.ofChange Rows.fnHexValueReadsBackFourDigitsSpec) :=
  OpenClaim.holds_of_wide 4 Try.f4 rfl rfl rfl rfl rfl rfl rfl ⟨rfl, rfl, rfl, rfl, rfl⟩ rfl rfl rfl rfl rfl (by kernel_rfl) Try.func4 (by kernel_rfl)
    (of_decide_eq_true (by kernel_rfl)) (by unfold Func.isWrapper; first | (rw [if_pos (by decide +kernel)]; kernel_rfl) | (rw [if_neg (by decide +kernel)]; exact ⟨rfl, rfl⟩))
    (fun os started H enc _ => lifted os started H enc)

/-- ████ THE STATEMENT ████ -/
theorem proved : Rows.FnHexValueReadsBackFourDigitsSaid :=
  over
#print axioms proved
end Go.Proofs.Qxb6602231a.fnHexValueReadsBackFourDigits
