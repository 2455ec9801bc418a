/-
  THE PROOF OF 'Rows.FnPatternMatchAgreesWithRunModelSaid': the frame after the kit's own shell; the walk is ours.
-/
import Derived.Test.Qxb6601218aRows
import Derived.WalkKit
import Derived.ProofKit
import Derived.OpenShut
import Derived.ShutString
import Derived.ChangeOld
import Derived.Below
import Derived.Test.Qxb6601218aModel
namespace Go.Proofs.Qxb6601218a.fnPatternMatchAgreesWithRunModel
open Go.ChangeShapes Go.WideShapes Go.ChangeAt Go.RowKit
open Go.ChangeMaps (open_string shut_string)
set_option linter.unusedVariables false      -- a walk need not use every 'w<i>' (that an integer argument fits its kind)

theorem own : ownKnob Try.prog.godebug = none := by kernel_rfl

theorem byYes (a0 a1 : ByteArray) (w : World) (h : a0.size + a1.size ≤ 1048576) : Calls Try.prog 9 #[.string a0, .string a1] w fun e w' => e = .returned (.bool true) ∧ w = w' := by
  go_enter Try.func9, Try.ntmps9
  go_wp2
  go_ret
  exact ⟨rfl, rfl⟩
theorem byA (a0 a1 : ByteArray) (w : World) (hm : a0.size ≤ 9223372036854775807) (h : 1048576 < a0.size) : Calls Try.prog 9 #[.string a0, .string a1] w fun e w' => e = .returned (.bool false) ∧ w = w' := by
  go_enter Try.func9, Try.ntmps9
  go_wp2
  go_ret
  exact ⟨rfl, rfl⟩
theorem byB (a0 a1 : ByteArray) (w : World) (hm : a1.size ≤ 9223372036854775807) (h0 : a0.size ≤ 1048576) (h : 1048576 < a1.size) : Calls Try.prog 9 #[.string a0, .string a1] w fun e w' => e = .returned (.bool false) ∧ w = w' := by
  go_enter Try.func9, Try.ntmps9
  go_wp2
  go_ret
  exact ⟨rfl, rfl⟩
theorem byC (a0 a1 : ByteArray) (w : World) (h0 : a0.size ≤ 1048576) (h1 : a1.size ≤ 1048576) (h : 1048576 < a0.size + a1.size) : Calls Try.prog 9 #[.string a0, .string a1] w fun e w' => e = .returned (.bool false) ∧ w = w' := by
  go_enter Try.func9, Try.ntmps9
  go_wp2
  go_ret
  exact ⟨rfl, rfl⟩
theorem exitA (a0 a1 : ByteArray) (w : World) (hm : a0.size ≤ 9223372036854775807) (h : 1048576 < a0.size) : Calls Try.prog 3 #[.string a0, .string a1] w fun e w' => e = .returned (.bool true) ∧ Below w.heap.size w w' := by
  have C := byA a0 a1 w hm h
  go_enter Try.func3, Try.ntmps3
  go_wp2_with fail
  refine C.mono ?_
  rintro e w' ⟨rfl, rfl⟩
  clear C
  go_wp2
  go_ret
  exact ⟨rfl, Below.refl _ _⟩
theorem exitB (a0 a1 : ByteArray) (w : World) (hm : a1.size ≤ 9223372036854775807) (h0 : a0.size ≤ 1048576) (h : 1048576 < a1.size) : Calls Try.prog 3 #[.string a0, .string a1] w fun e w' => e = .returned (.bool true) ∧ Below w.heap.size w w' := by
  have C := byB a0 a1 w hm h0 h
  go_enter Try.func3, Try.ntmps3
  go_wp2_with fail
  refine C.mono ?_
  rintro e w' ⟨rfl, rfl⟩
  clear C
  go_wp2
  go_ret
  exact ⟨rfl, Below.refl _ _⟩
theorem exitC (a0 a1 : ByteArray) (w : World) (h0 : a0.size ≤ 1048576) (h1 : a1.size ≤ 1048576) (h : 1048576 < a0.size + a1.size) : Calls Try.prog 3 #[.string a0, .string a1] w fun e w' => e = .returned (.bool true) ∧ Below w.heap.size w w' := by
  have C := byC a0 a1 w h0 h1 h
  go_enter Try.func3, Try.ntmps3
  go_wp2_with fail
  refine C.mono ?_
  rintro e w' ⟨rfl, rfl⟩
  clear C
  go_wp2
  go_ret
  exact ⟨rfl, Below.refl _ _⟩
theorem exitD (a0 a1 : ByteArray) (w : World) (hs : a0.size + a1.size ≤ 1048576) (h : 4096 < a0.size) : Calls Try.prog 3 #[.string a0, .string a1] w fun e w' => e = .returned (.bool true) ∧ Below w.heap.size w w' := by
  have C := byYes a0 a1 w hs
  go_enter Try.func3, Try.ntmps3
  go_wp2_with fail
  refine C.mono ?_
  rintro e w' ⟨rfl, rfl⟩
  clear C
  go_wp2
  go_ret
  exact ⟨rfl, Below.refl _ _⟩
theorem exitE (a0 a1 : ByteArray) (w : World) (hs : a0.size + a1.size ≤ 1048576) (h0 : a0.size ≤ 4096) (h : 4096 < a1.size) : Calls Try.prog 3 #[.string a0, .string a1] w fun e w' => e = .returned (.bool true) ∧ Below w.heap.size w w' := by
  have C := byYes a0 a1 w hs
  go_enter Try.func3, Try.ntmps3
  go_wp2_with fail
  refine C.mono ?_
  rintro e w' ⟨rfl, rfl⟩
  clear C
  go_wp2
  go_ret
  exact ⟨rfl, Below.refl _ _⟩

theorem core (a0 a1 : ByteArray) (w : World) (h0 : a0.size ≤ 4096) (h1 : a1.size ≤ 4096) : Calls Try.prog 3 #[.string a0, .string a1] w fun e w' => e = .returned (.bool true) ∧ Below w.heap.size w w' := by
  have C := byYes a0 a1 w (by omega)
  have hf : ∀ k (h : k < a1.size), (a1[k]'h).toNat = (fun q => (a1.data.toList.getD q 0).toNat) k := by
    intro k h
    have e : a1.data.toList[k]? = some (a1[k]'h) := by
      rw [Array.getElem?_toList, Array.getElem?_eq_getElem (by simpa using h)]; rfl
    show _ = (a1.data.toList.getD k 0).toNat
    rw [List.getD_eq_getElem?_getD, e]; rfl
  have HF := hid hf
  clear hf
  go_enter Try.func3, Try.ntmps3
  go_wp2_with fail
  refine C.mono ?_
  rintro e w' ⟨rfl, rfl⟩
  clear C
  go_wp2_with fail
  refine (match_any a0 a1 w h0 h1 _ HF.out).mono ?_
  rintro e w1 ⟨b1, rfl, hb1, bel1⟩
  have HB1 := hid hb1
  have HL1 := hid bel1
  clear hb1 bel1
  go_wp2_with fail
  refine (model_any a0 a1 w1 h0 h1 _ HF.out).mono ?_
  rintro e w2 ⟨b2, rfl, hb2, bel2⟩
  have hbb : b2 = b1 := Bool.eq_iff_iff.2 (hb2.trans HB1.out.symm)
  have HL2 := hid (HL1.out.trans (bel2.mono HL1.out.size))
  clear hb2 bel2 HB1
  subst hbb
  have hxx : (b2 == b2) = true := by simp
  go_wp2
  go_ret
  exact ⟨rfl, HL2.out⟩

/-! ### STEP 1: THE WALK -/
theorem walk (a0 : ByteArray) (a1 : ByteArray) (w0 : a0.size ≤ maxLen) (w1 : a1.size ≤ maxLen) (w : World) :
    Calls Try.prog 3 #[.string a0, .string a1] w fun e w' => e = .returned (.bool true) ∧ Below w.heap.size w w' := by
  unfold maxLen at w0 w1
  by_cases c1 : 1048576 < a0.size
  · exact exitA a0 a1 w w0 c1
  by_cases c2 : 1048576 < a1.size
  · exact exitB a0 a1 w w1 (by omega) c2
  by_cases c3 : 1048576 < a0.size + a1.size
  · exact exitC a0 a1 w (by omega) (by omega) c3
  by_cases c4 : 4096 < a0.size
  · exact exitD a0 a1 w (by omega) c4
  by_cases c5 : 4096 < a1.size
  · exact exitE a0 a1 w (by omega) (by omega) c5
  exact core a0 a1 w (by omega) (by omega)

/-! ### THE ROW's STEP: WRITTEN OUT: LEAVE IT -/
set_option maxRecDepth 100000 in
theorem lifted (os : Os) (started : os.Started) (H : Type) (enc : TypeId × Value → H) :
    ReturnsInHanded {} Try.checked os 3 .any (Rows.fnPatternMatchAgreesWithRunModelSpec.pre6 enc Try.prog Try.f3 Rows.fnPatternMatchAgreesWithRunModelRow.domain false) (Rows.fnPatternMatchAgreesWithRunModelSpec.post enc Try.prog Try.f3 false true false false) := by
  refine returnsInHanded_of_change (C := Try.checked) own started (by kernel_rfl) Try.func3
    (ChangeSpec.witness6 (enc := enc) (C := Try.checked) false ⟨#[], #[.string ByteArray.empty, .string ByteArray.empty], []⟩ 8 (by kernel_rfl) (by kernel_rfl) (by kernel_rfl) (by kernel_rfl)) ?_
  intro W base args ds gs before hval0 hW hcnd _
  have hval : ∀ (j : Nat) t v, Try.f3.params[j]? = some t → args[j]? = some v → Value.okWide Try.prog W .any base t v := hval0
  have hW' := hW
  obtain ⟨p, q, hA0, hV, rfl, hfz, hnd⟩ := hW
  have hA : DataW.TrodAll enc Try.prog W 0 (fun _ => true) true Try.f3.params.toList args.toList ds p := hA0
  rw [Try.params3] at hA hval
  obtain ⟨v0, vs0, d0, ds0, p0, q0, hargs, rfl, rfl, h0, r0⟩ := trodAll_cons hA
  obtain ⟨v1, vs1, d1, ds1, p1, q1, rfl, rfl, rfl, h1, r1⟩ := trodAll_cons r0
  obtain ⟨rfl, rfl, rfl⟩ := trodAll_nil r1
  obtain rfl : args = #[v0, v1] := by cases args; simp_all
  obtain ⟨rfl, rfl⟩ := trodVars_none hV
  obtain ⟨a0, rfl, rfl, rfl, w0⟩ := open_string Try.underlying9 (hval 0 9 v0 rfl rfl) h0
  obtain ⟨a1, rfl, rfl, rfl, w1⟩ := open_string Try.underlying9 (hval 1 9 v1 rfl rfl) h1
  clear hA0 hval0
  refine (walk a0 a1 w0 w1 W).mono fun e W' ⟨he, bel⟩ => ?_
  subst he
  exact ⟨_, rfl, _, _, _, [], _, [], hW', trodAll_mk1 (shut_bool Try.underlying4 _), (trodAll_cons_mk (shut_string Try.underlying9 w0) (trodAll_cons_mk (shut_string Try.underlying9 w1) trodAll_mk0)), rfl, bel.frame _, fun h => by cases h⟩

theorem over : Rows.fnPatternMatchAgreesWithRunModelRow.holds Try.pinned (OpenSpec.ofChange Rows.fnPatternMatchAgreesWithRunModelSpec) :=
  OpenClaim.holds_of_wide 3 Try.f3 rfl rfl rfl rfl rfl rfl rfl ⟨rfl, rfl, rfl, rfl, rfl⟩ rfl rfl rfl rfl rfl (by kernel_rfl) Try.func3 (by kernel_rfl)
    (of_decide_eq_true (by kernel_rfl)) (by unfold Func.isWrapper; first | (rw [if_pos (by decide +kernel)]; kernel_rfl) | (rw [if_neg (by decide +kernel)]; exact ⟨rfl, rfl⟩))
    (fun os started H enc _ => lifted os started H enc)

/-- ████ THE STATEMENT ████ -/
theorem proved : Rows.FnPatternMatchAgreesWithRunModelSaid :=
  over
#print axioms proved
end Go.Proofs.Qxb6601218a.fnPatternMatchAgreesWithRunModel
