/-
  THE PROOF OF 'Rows.FnMergeSlashesSquashesEachRunSaid': the frame after the kit's own shell; the walk is ours.
-/
import Derived.Test.Qxb6601218aRows
import Derived.WalkKit
import Derived.ProofKit
import Derived.OpenShut
import Derived.ShutString
import Derived.ChangeOld
import Derived.Below
import Derived.Test.Qxb6601218aSquash
namespace Go.Proofs.Qxb6601218a.fnMergeSlashesSquashesEachRun
open Go.ChangeShapes Go.WideShapes Go.ChangeAt Go.RowKit
open Go.ChangeMaps (open_string shut_string)
set_option linter.unusedVariables false      -- a walk need not use every 'w<i>' (that an integer argument fits its kind)

theorem own : ownKnob Try.prog.godebug = none := by kernel_rfl

theorem bytesYes (a0 : ByteArray) (w : World) (h : a0.size ≤ 1048576) : Calls Try.prog 15 #[.string a0] w fun e w' => e = .returned (.bool true) ∧ w = w' := by
  go_enter Try.func15, Try.ntmps15
  go_wp2
  go_ret
  exact ⟨rfl, rfl⟩
theorem bytesNo (a0 : ByteArray) (w : World) (hm : a0.size ≤ 9223372036854775807) (h : 1048576 < a0.size) : Calls Try.prog 15 #[.string a0] w fun e w' => e = .returned (.bool false) ∧ w = w' := by
  go_enter Try.func15, Try.ntmps15
  go_wp2
  go_ret
  exact ⟨rfl, rfl⟩
theorem exit (a0 : ByteArray) (w : World) (hm : a0.size ≤ 9223372036854775807) (h : 1048576 < a0.size) : Calls Try.prog 6 #[.string a0] w fun e w' => e = .returned (.bool true) ∧ Below w.heap.size w w' := by
  have C := bytesNo a0 w hm h
  go_enter Try.func6, Try.ntmps6
  go_wp2_with fail
  refine C.mono ?_
  rintro e w' ⟨rfl, rfl⟩
  clear C
  go_wp2
  go_ret
  exact ⟨rfl, Below.refl _ _⟩

set_option maxRecDepth 100000 in
theorem core (a0 : ByteArray) (w : World) (h0 : a0.size ≤ 1048576) : Calls Try.prog 6 #[.string a0] w fun e w' => e = .returned (.bool true) ∧ Below w.heap.size w w' := by
  have C := bytesYes a0 w h0
  obtain ⟨r, hr⟩ : ∃ r : ByteArray, r = ⟨(mg a0.data.toList a0.size).toArray⟩ := ⟨_, rfl⟩
  have hl : r.data.toList = mg a0.data.toList a0.size := by rw [hr]
  have M := zzMerge_any a0 w h0
  rw [← hr] at M
  have HR := hid hl
  clear hl hr
  go_enter Try.func6, Try.ntmps6
  go_wp2_with fail
  refine C.mono ?_
  rintro e w' ⟨rfl, rfl⟩
  clear C
  go_wp2_with fail
  refine M.mono ?_
  rintro e w1 ⟨rfl, bel1⟩
  have HL1 := hid bel1
  clear bel1 M
  go_wp2_with fail
  refine (squash_any a0 r w1 h0 HR.out).mono ?_
  rintro e w2 ⟨rfl, q, rfl⟩
  go_wp2
  go_ret
  exact ⟨rfl, HL1.out.trans ⟨rfl, rfl, rfl, Nat.le_refl _, fun _ _ => rfl⟩⟩

/-! ### STEP 1: THE WALK -/
theorem walk (a0 : ByteArray) (w0 : a0.size ≤ maxLen) (w : World) :
    Calls Try.prog 6 #[.string a0] w fun e w' => e = .returned (.bool true) ∧ Below w.heap.size w w' := by
  unfold maxLen at w0
  by_cases c1 : 1048576 < a0.size
  · exact exit a0 w w0 c1
  exact core a0 w (by omega)

/-! ### THE ROW's STEP: WRITTEN OUT: LEAVE IT -/
set_option maxRecDepth 100000 in
theorem lifted (os : Os) (started : os.Started) (H : Type) (enc : TypeId × Value → H) :
    ReturnsInHanded {} Try.checked os 6 .any (Rows.fnMergeSlashesSquashesEachRunSpec.pre6 enc Try.prog Try.f6 Rows.fnMergeSlashesSquashesEachRunRow.domain false) (Rows.fnMergeSlashesSquashesEachRunSpec.post enc Try.prog Try.f6 false true false false) := by
  refine returnsInHanded_of_change (C := Try.checked) own started (by kernel_rfl) Try.func6
    (ChangeSpec.witness6 (enc := enc) (C := Try.checked) false ⟨#[], #[.string ByteArray.empty], []⟩ 8 (by kernel_rfl) (by kernel_rfl) (by kernel_rfl) (by kernel_rfl)) ?_
  intro W base args ds gs before hval0 hW hcnd _
  have hval : ∀ (j : Nat) t v, Try.f6.params[j]? = some t → args[j]? = some v → Value.okWide Try.prog W .any base t v := hval0
  have hW' := hW
  obtain ⟨p, q, hA0, hV, rfl, hfz, hnd⟩ := hW
  have hA : DataW.TrodAll enc Try.prog W 0 (fun _ => true) true Try.f6.params.toList args.toList ds p := hA0
  rw [Try.params6] at hA hval
  obtain ⟨v0, vs0, d0, ds0, p0, q0, hargs, rfl, rfl, h0, r0⟩ := trodAll_cons hA
  obtain ⟨rfl, rfl, rfl⟩ := trodAll_nil r0
  obtain rfl : args = #[v0] := by cases args; simp_all
  obtain ⟨rfl, rfl⟩ := trodVars_none hV
  obtain ⟨a0, rfl, rfl, rfl, w0⟩ := open_string Try.underlying9 (hval 0 9 v0 rfl rfl) h0
  clear hA0 hval0
  refine (walk a0 w0 W).mono fun e W' ⟨he, bel⟩ => ?_
  subst he
  exact ⟨_, rfl, _, _, _, [], _, [], hW', trodAll_mk1 (shut_bool Try.underlying4 _), (trodAll_cons_mk (shut_string Try.underlying9 w0) trodAll_mk0), rfl, bel.frame _, fun h => by cases h⟩

theorem over : Rows.fnMergeSlashesSquashesEachRunRow.holds Try.pinned (OpenSpec.ofChange Rows.fnMergeSlashesSquashesEachRunSpec) :=
  OpenClaim.holds_of_wide 6 Try.f6 rfl rfl rfl rfl rfl rfl rfl ⟨rfl, rfl, rfl, rfl, rfl⟩ rfl rfl rfl rfl rfl (by kernel_rfl) Try.func6 (by kernel_rfl)
    (of_decide_eq_true (by kernel_rfl)) (by unfold Func.isWrapper; first | (rw [if_pos (by decide +kernel)]; kernel_rfl) | (rw [if_neg (by decide +kernel)]; exact ⟨rfl, rfl⟩))
    (fun os started H enc _ => lifted os started H enc)

/-- ████ THE STATEMENT ████ -/
theorem proved : Rows.FnMergeSlashesSquashesEachRunSaid :=
  over
#print axioms proved
end Go.Proofs.Qxb6601218a.fnMergeSlashesSquashesEachRun
