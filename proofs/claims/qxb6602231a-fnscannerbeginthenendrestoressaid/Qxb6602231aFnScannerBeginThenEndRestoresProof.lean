import Derived.Test.Qxb6602231aRows
import Derived.WalkKit
import Derived.ProofKit
import Derived.OpenShut
import Derived.ShutString
import Derived.ChangeOld
import Derived.Below
import Derived.Test.Qxb6602231aArgB
import Derived.Test.Qxb6602231aRestoreLaw
namespace Go.Proofs.Qxb6602231a.fnScannerBeginThenEndRestores
open Go.ChangeShapes Go.WideShapes Go.ChangeAt Go.RowKit
open Go.ChangeMaps (open_string shut_string)
set_option linter.unusedVariables false

theorem own : ownKnob Try.prog.godebug = none := by kernel_rfl
theorem laidOut : laidOutB Try.prog = true := by kernel_rfl

theorem bytes25yes (a0 : Option Addr) (len0 cap0 : Nat) (a1 : Int) (a2 : Int) (a3 : Option Addr) (len3 cap3 : Nat) (a4 : Int) (a5 : Int) (a6 : Int) (a7 : Int) (a8 : Int) (w : World) (h : len0 + len3 ≤ 1048576) : Calls Try.prog 25 #[.slice a0 len0 cap0, .int .i64 a1, .int .u8 a2, .slice a3 len3 cap3, .int .u8 a4, .int .u8 a5, .int .u8 a6, .int .u8 a7, .int .u8 a8] w fun e w' => e = .returned (.bool true) ∧ w = w' := by
  go_enter Try.func25, Try.ntmps25
  go_wp2
  go_ret
  exact ⟨rfl, rfl⟩
theorem bytes25noA (a0 : Option Addr) (len0 cap0 : Nat) (a1 : Int) (a2 : Int) (a3 : Option Addr) (len3 cap3 : Nat) (a4 : Int) (a5 : Int) (a6 : Int) (a7 : Int) (a8 : Int) (w : World) (hm : len0 ≤ 9223372036854775807) (h : 1048576 < len0) : Calls Try.prog 25 #[.slice a0 len0 cap0, .int .i64 a1, .int .u8 a2, .slice a3 len3 cap3, .int .u8 a4, .int .u8 a5, .int .u8 a6, .int .u8 a7, .int .u8 a8] w fun e w' => e = .returned (.bool false) ∧ w = w' := by
  go_enter Try.func25, Try.ntmps25
  go_wp2
  go_ret
  exact ⟨rfl, rfl⟩
theorem bytes25noB (a0 : Option Addr) (len0 cap0 : Nat) (a1 : Int) (a2 : Int) (a3 : Option Addr) (len3 cap3 : Nat) (a4 : Int) (a5 : Int) (a6 : Int) (a7 : Int) (a8 : Int) (w : World) (hm : len3 ≤ 9223372036854775807) (h0 : len0 ≤ 1048576) (h : 1048576 < len3) : Calls Try.prog 25 #[.slice a0 len0 cap0, .int .i64 a1, .int .u8 a2, .slice a3 len3 cap3, .int .u8 a4, .int .u8 a5, .int .u8 a6, .int .u8 a7, .int .u8 a8] w fun e w' => e = .returned (.bool false) ∧ w = w' := by
  go_enter Try.func25, Try.ntmps25
  go_wp2
  go_ret
  exact ⟨rfl, rfl⟩
theorem bytes25noC (a0 : Option Addr) (len0 cap0 : Nat) (a1 : Int) (a2 : Int) (a3 : Option Addr) (len3 cap3 : Nat) (a4 : Int) (a5 : Int) (a6 : Int) (a7 : Int) (a8 : Int) (w : World) (h0 : len0 ≤ 1048576) (h1 : len3 ≤ 1048576) (h : 1048576 < len0 + len3) : Calls Try.prog 25 #[.slice a0 len0 cap0, .int .i64 a1, .int .u8 a2, .slice a3 len3 cap3, .int .u8 a4, .int .u8 a5, .int .u8 a6, .int .u8 a7, .int .u8 a8] w fun e w' => e = .returned (.bool false) ∧ w = w' := by
  go_enter Try.func25, Try.ntmps25
  go_wp2
  go_ret
  exact ⟨rfl, rfl⟩
set_option maxRecDepth 100000 in
theorem exitA (a0 : Option Addr) (len0 cap0 : Nat) (a1 : Int) (a2 : Int) (a3 : Option Addr) (len3 cap3 : Nat) (a4 : Int) (a5 : Int) (a6 : Int) (a7 : Int) (a8 : Int) (w : World) (hm : len0 ≤ 9223372036854775807) (h : 1048576 < len0) : Calls Try.prog 7 #[.slice a0 len0 cap0, .int .i64 a1, .int .u8 a2, .slice a3 len3 cap3, .int .u8 a4, .int .u8 a5, .int .u8 a6, .int .u8 a7, .int .u8 a8] w fun e w' => e = .returned (.bool true) ∧ Below w.heap.size w w' := by
  have C := bytes25noA a0 len0 cap0 a1 a2 a3 len3 cap3 a4 a5 a6 a7 a8 w hm h
  go_enter Try.func7, Try.ntmps7
  go_wp2_with fail
  refine C.mono ?_
  rintro e w' ⟨rfl, rfl⟩
  clear C
  go_wp2
  go_ret
  exact ⟨rfl, Below.refl _ _⟩
set_option maxRecDepth 100000 in
theorem exitB (a0 : Option Addr) (len0 cap0 : Nat) (a1 : Int) (a2 : Int) (a3 : Option Addr) (len3 cap3 : Nat) (a4 : Int) (a5 : Int) (a6 : Int) (a7 : Int) (a8 : Int) (w : World) (hm : len3 ≤ 9223372036854775807) (h0 : len0 ≤ 1048576) (h : 1048576 < len3) : Calls Try.prog 7 #[.slice a0 len0 cap0, .int .i64 a1, .int .u8 a2, .slice a3 len3 cap3, .int .u8 a4, .int .u8 a5, .int .u8 a6, .int .u8 a7, .int .u8 a8] w fun e w' => e = .returned (.bool true) ∧ Below w.heap.size w w' := by
  have C := bytes25noB a0 len0 cap0 a1 a2 a3 len3 cap3 a4 a5 a6 a7 a8 w hm h0 h
  go_enter Try.func7, Try.ntmps7
  go_wp2_with fail
  refine C.mono ?_
  rintro e w' ⟨rfl, rfl⟩
  clear C
  go_wp2
  go_ret
  exact ⟨rfl, Below.refl _ _⟩
set_option maxRecDepth 100000 in
theorem exitC (a0 : Option Addr) (len0 cap0 : Nat) (a1 : Int) (a2 : Int) (a3 : Option Addr) (len3 cap3 : Nat) (a4 : Int) (a5 : Int) (a6 : Int) (a7 : Int) (a8 : Int) (w : World) (h0 : len0 ≤ 1048576) (h1 : len3 ≤ 1048576) (h : 1048576 < len0 + len3) : Calls Try.prog 7 #[.slice a0 len0 cap0, .int .i64 a1, .int .u8 a2, .slice a3 len3 cap3, .int .u8 a4, .int .u8 a5, .int .u8 a6, .int .u8 a7, .int .u8 a8] w fun e w' => e = .returned (.bool true) ∧ Below w.heap.size w w' := by
  have C := bytes25noC a0 len0 cap0 a1 a2 a3 len3 cap3 a4 a5 a6 a7 a8 w h0 h1 h
  go_enter Try.func7, Try.ntmps7
  go_wp2_with fail
  refine C.mono ?_
  rintro e w' ⟨rfl, rfl⟩
  clear C
  go_wp2
  go_ret
  exact ⟨rfl, Below.refl _ _⟩
set_option maxRecDepth 100000 in
theorem exitD (a0 : Option Addr) (len0 cap0 : Nat) (a1 : Int) (a2 : Int) (a3 : Option Addr) (len3 cap3 : Nat) (a4 : Int) (a5 : Int) (a6 : Int) (a7 : Int) (a8 : Int) (w : World) (hs : len0 + len3 ≤ 1048576) (h : 524288 < len0) : Calls Try.prog 7 #[.slice a0 len0 cap0, .int .i64 a1, .int .u8 a2, .slice a3 len3 cap3, .int .u8 a4, .int .u8 a5, .int .u8 a6, .int .u8 a7, .int .u8 a8] w fun e w' => e = .returned (.bool true) ∧ Below w.heap.size w w' := by
  have C := bytes25yes a0 len0 cap0 a1 a2 a3 len3 cap3 a4 a5 a6 a7 a8 w hs
  go_enter Try.func7, Try.ntmps7
  go_wp2_with fail
  refine C.mono ?_
  rintro e w' ⟨rfl, rfl⟩
  clear C
  go_wp2
  go_ret
  exact ⟨rfl, Below.refl _ _⟩
set_option maxRecDepth 100000 in
theorem exitE (a0 : Option Addr) (len0 cap0 : Nat) (a1 : Int) (a2 : Int) (a3 : Option Addr) (len3 cap3 : Nat) (a4 : Int) (a5 : Int) (a6 : Int) (a7 : Int) (a8 : Int) (w : World) (hs : len0 + len3 ≤ 1048576) (h0 : len0 ≤ 524288) (h : 524288 < len3) : Calls Try.prog 7 #[.slice a0 len0 cap0, .int .i64 a1, .int .u8 a2, .slice a3 len3 cap3, .int .u8 a4, .int .u8 a5, .int .u8 a6, .int .u8 a7, .int .u8 a8] w fun e w' => e = .returned (.bool true) ∧ Below w.heap.size w w' := by
  have C := bytes25yes a0 len0 cap0 a1 a2 a3 len3 cap3 a4 a5 a6 a7 a8 w hs
  go_enter Try.func7, Try.ntmps7
  go_wp2_with fail
  refine C.mono ?_
  rintro e w' ⟨rfl, rfl⟩
  clear C
  go_wp2
  go_ret
  exact ⟨rfl, Below.refl _ _⟩
set_option maxRecDepth 100000 in
theorem exitF (a0 : Option Addr) (len0 cap0 : Nat) (a1 : Int) (a2 : Int) (a3 : Option Addr) (len3 cap3 : Nat) (a4 : Int) (a5 : Int) (a6 : Int) (a7 : Int) (a8 : Int) (w : World) (h0 : len0 ≤ 524288) (h1 : len3 ≤ 524288) (h : a1 < 0) : Calls Try.prog 7 #[.slice a0 len0 cap0, .int .i64 a1, .int .u8 a2, .slice a3 len3 cap3, .int .u8 a4, .int .u8 a5, .int .u8 a6, .int .u8 a7, .int .u8 a8] w fun e w' => e = .returned (.bool true) ∧ Below w.heap.size w w' := by
  have C := bytes25yes a0 len0 cap0 a1 a2 a3 len3 cap3 a4 a5 a6 a7 a8 w (by omega)
  go_enter Try.func7, Try.ntmps7
  go_wp2_with fail
  refine C.mono ?_
  rintro e w' ⟨rfl, rfl⟩
  clear C
  go_wp2
  go_ret
  exact ⟨rfl, Below.refl _ _⟩
set_option maxRecDepth 100000 in
theorem exitG (a0 : Option Addr) (len0 cap0 : Nat) (a1 : Int) (a2 : Int) (a3 : Option Addr) (len3 cap3 : Nat) (a4 : Int) (a5 : Int) (a6 : Int) (a7 : Int) (a8 : Int) (w : World) (h0 : len0 ≤ 524288) (h1 : len3 ≤ 524288) (hp : 0 ≤ a1) (h : (len0 : Int) - 2 < a1) : Calls Try.prog 7 #[.slice a0 len0 cap0, .int .i64 a1, .int .u8 a2, .slice a3 len3 cap3, .int .u8 a4, .int .u8 a5, .int .u8 a6, .int .u8 a7, .int .u8 a8] w fun e w' => e = .returned (.bool true) ∧ Below w.heap.size w w' := by
  have C := bytes25yes a0 len0 cap0 a1 a2 a3 len3 cap3 a4 a5 a6 a7 a8 w (by omega)
  go_enter Try.func7, Try.ntmps7
  go_wp2_with fail
  refine C.mono ?_
  rintro e w' ⟨rfl, rfl⟩
  clear C
  go_wp2
  go_ret
  exact ⟨rfl, Below.refl _ _⟩

theorem walk (a0 : Option Addr) (len0 cap0 : Nat) (z0 : List Int) (a1 : Int) (a2 : Int) (a3 : Option Addr) (len3 cap3 : Nat) (z3 : List Bool) (a4 : Int) (a5 : Int) (a6 : Int) (a7 : Int) (a8 : Int) (w : World) (w0 : IsRow .u8 w a0 len0 cap0 z0) (w1 : (Lit.int .i64 a1).wf = true) (w2 : (Lit.int .u8 a2).wf = true) (w3 : IsBools w a3 len3 z3) (w4 : (Lit.int .u8 a4).wf = true) (w5 : (Lit.int .u8 a5).wf = true) (w6 : (Lit.int .u8 a6).wf = true) (w7 : (Lit.int .u8 a7).wf = true) (w8 : (Lit.int .u8 a8).wf = true) :
    Calls Try.prog 7 #[.slice a0 len0 cap0, .int .i64 a1, .int .u8 a2, .slice a3 len3 cap3, .int .u8 a4, .int .u8 a5, .int .u8 a6, .int .u8 a7, .int .u8 a8] w fun e w' => e = .returned (.bool true) ∧ Below w.heap.size w w' := by
  obtain ⟨hm0, hl0, ha0, hr0, hb0⟩ := rd_of_row w0
  obtain ⟨hm3, hl3, ha3, hr3⟩ := w3
  unfold maxLen at hm0 hm3
  by_cases c1 : 1048576 < len0
  · exact exitA a0 len0 cap0 a1 a2 a3 len3 cap3 a4 a5 a6 a7 a8 w hm0 c1
  by_cases c2 : 1048576 < len3
  · exact exitB a0 len0 cap0 a1 a2 a3 len3 cap3 a4 a5 a6 a7 a8 w hm3 (by omega) c2
  by_cases c3 : 1048576 < len0 + len3
  · exact exitC a0 len0 cap0 a1 a2 a3 len3 cap3 a4 a5 a6 a7 a8 w (by omega) (by omega) c3
  by_cases c4 : 524288 < len0
  · exact exitD a0 len0 cap0 a1 a2 a3 len3 cap3 a4 a5 a6 a7 a8 w (by omega) c4
  by_cases c5 : 524288 < len3
  · exact exitE a0 len0 cap0 a1 a2 a3 len3 cap3 a4 a5 a6 a7 a8 w (by omega) (by omega) c5
  by_cases c6 : a1 < 0
  · exact exitF a0 len0 cap0 a1 a2 a3 len3 cap3 a4 a5 a6 a7 a8 w (by omega) (by omega) c6
  by_cases c7 : (len0 : Int) - 2 < a1
  · exact exitG a0 len0 cap0 a1 a2 a3 len3 cap3 a4 a5 a6 a7 a8 w (by omega) (by omega) (by omega) c7
  obtain ⟨p, rfl⟩ := Int.eq_ofNat_of_zero_le (show 0 ≤ a1 by omega)
  cases a0 with
  | none => have := ha0 rfl; omega
  | some ad => exact restore_law ad a3 len0 cap0 len3 cap3 p (z0.take len0) z3 a2 a4 a5 a6 a7 a8 w (by omega) (by omega) (by omega) hl0 hl3 ha3 hr0 hr3

set_option maxRecDepth 100000 in
theorem lifted (os : Os) (started : os.Started) (H : Type) (enc : TypeId × Value → H) :
    ReturnsInHanded {} Try.checked os 7 .any (Rows.fnScannerBeginThenEndRestoresSpec.pre6 enc Try.prog Try.f7 Rows.fnScannerBeginThenEndRestoresRow.domain false) (Rows.fnScannerBeginThenEndRestoresSpec.post enc Try.prog Try.f7 false true false false) := by
  refine returnsInHanded_of_change (C := Try.checked) own started (by kernel_rfl) Try.func7
    (ChangeSpec.witness6 (enc := enc) (C := Try.checked) false ⟨#[], #[.slice none 0 0, .int .i64 0, .int .u8 0, .slice none 0 0, .int .u8 0, .int .u8 0, .int .u8 0, .int .u8 0, .int .u8 0], []⟩ 8 (by kernel_rfl) (by kernel_rfl) (by kernel_rfl) (by kernel_rfl)) ?_
  intro W base args ds gs before hval0 hW hcnd _
  have hval : ∀ (j : Nat) t v, Try.f7.params[j]? = some t → args[j]? = some v → Value.okWide Try.prog W .any base t v := hval0
  have hW' := hW
  obtain ⟨p, q, hA0, hV, rfl, hfz, hnd⟩ := hW
  have hA : DataW.TrodAll enc Try.prog W 0 (fun _ => true) true Try.f7.params.toList args.toList ds p := hA0
  rw [Try.params7] at hA hval
  obtain ⟨v0, vs0, d0, ds0, p0, q0, hargs, rfl, rfl, h0, r0⟩ := trodAll_cons hA
  obtain ⟨v1, vs1, d1, ds1, p1, q1, rfl, rfl, rfl, h1, r1⟩ := trodAll_cons r0
  obtain ⟨v2, vs2, d2, ds2, p2, q2, rfl, rfl, rfl, h2, r2⟩ := trodAll_cons r1
  obtain ⟨v3, vs3, d3, ds3, p3, q3, rfl, rfl, rfl, h3, r3⟩ := trodAll_cons r2
  obtain ⟨v4, vs4, d4, ds4, p4, q4, rfl, rfl, rfl, h4, r4⟩ := trodAll_cons r3
  obtain ⟨v5, vs5, d5, ds5, p5, q5, rfl, rfl, rfl, h5, r5⟩ := trodAll_cons r4
  obtain ⟨v6, vs6, d6, ds6, p6, q6, rfl, rfl, rfl, h6, r6⟩ := trodAll_cons r5
  obtain ⟨v7, vs7, d7, ds7, p7, q7, rfl, rfl, rfl, h7, r7⟩ := trodAll_cons r6
  obtain ⟨v8, vs8, d8, ds8, p8, q8, rfl, rfl, rfl, h8, r8⟩ := trodAll_cons r7
  obtain ⟨rfl, rfl, rfl⟩ := trodAll_nil r8
  obtain rfl : args = #[v0, v1, v2, v3, v4, v5, v6, v7, v8] := by cases args; simp_all
  obtain ⟨rfl, rfl⟩ := trodVars_none hV
  obtain ⟨a0, len0, cap0, rfl⟩ := okWide_slice Try.underlying22 (hval 0 22 v0 rfl rfl)
  have k0 := h0
  have lt0 : ∀ x ∈ p0, x.block < W.heap.size := by obtain ⟨m, hm⟩ := k0; exact DataW.trod_lt m _ _ _ hm
  obtain ⟨z0, w0⟩ : ∃ zs, IsRow .u8 W a0 len0 cap0 zs := by
    obtain ⟨fuel, hf⟩ := h0
    rcases open_ints Try.underlying22 Try.underlying5 (by kernel_rfl) hf with ⟨hcs, _⟩ | ⟨x, l, c, zs, hcs, _, hl, hm, hz, _, hcell, hwz⟩
    · simp [Value.cells] at hcs
      obtain ⟨rfl, rfl, rfl⟩ := hcs
      exact ⟨[], .inl ⟨rfl, rfl, rfl, rfl⟩⟩
    · simp [Value.cells] at hcs
      obtain ⟨rfl, rfl, rfl⟩ := hcs
      exact ⟨zs, .inr ⟨_, rfl, hl, hm, by simpa using hz, hcell, hwz⟩⟩
  obtain ⟨a1, rfl, rfl, rfl, w1⟩ := open_int Try.underlying3 (hval 1 3 v1 rfl rfl) h1
  obtain ⟨a2, rfl, rfl, rfl, w2⟩ := open_int Try.underlying5 (hval 2 5 v2 rfl rfl) h2
  obtain ⟨a3, len3, cap3, rfl⟩ := okWide_slice Try.underlying30 (hval 3 30 v3 rfl rfl)
  have k3 := h3
  have lt3 : ∀ x ∈ p3, x.block < W.heap.size := by obtain ⟨m, hm⟩ := k3; exact DataW.trod_lt m _ _ _ hm
  obtain ⟨z3, w3⟩ : ∃ bs, IsBools W a3 len3 bs := by obtain ⟨fuel, hf⟩ := h3; exact bools_of hf
  obtain ⟨a4, rfl, rfl, rfl, w4⟩ := open_int Try.underlying5 (hval 4 5 v4 rfl rfl) h4
  obtain ⟨a5, rfl, rfl, rfl, w5⟩ := open_int Try.underlying5 (hval 5 5 v5 rfl rfl) h5
  obtain ⟨a6, rfl, rfl, rfl, w6⟩ := open_int Try.underlying5 (hval 6 5 v6 rfl rfl) h6
  obtain ⟨a7, rfl, rfl, rfl, w7⟩ := open_int Try.underlying5 (hval 7 5 v7 rfl rfl) h7
  obtain ⟨a8, rfl, rfl, rfl, w8⟩ := open_int Try.underlying5 (hval 8 5 v8 rfl rfl) h8
  clear hA0 hval0
  refine (walk a0 len0 cap0 z0 a1 a2 a3 len3 cap3 z3 a4 a5 a6 a7 a8 W w0 w1 w2 w3 w4 w5 w6 w7 w8).mono fun e W' ⟨he, bel⟩ => ?_
  subst he
  exact ⟨_, rfl, _, _, _, [], _, [], hW', trodAll_mk1 (shut_bool Try.underlying4 _), (trodAll_cons_mk (Below.trod laidOut (by kernel_rfl) (of_decide_eq_true (by kernel_rfl)) k0 bel lt0) (trodAll_cons_mk (shut_int Try.underlying3 w1) (trodAll_cons_mk (shut_int Try.underlying5 w2) (trodAll_cons_mk (Below.trod laidOut (by kernel_rfl) (of_decide_eq_true (by kernel_rfl)) k3 bel lt3) (trodAll_cons_mk (shut_int Try.underlying5 w4) (trodAll_cons_mk (shut_int Try.underlying5 w5) (trodAll_cons_mk (shut_int Try.underlying5 w6) (trodAll_cons_mk (shut_int Try.underlying5 w7) (trodAll_cons_mk (shut_int Try.underlying5 w8) trodAll_mk0))))))))), rfl, bel.frame _, fun h => by cases h⟩

theorem over : Rows.fnScannerBeginThenEndRestoresRow.holds Try.pinned (OpenSpec.ofChange Rows.fnScannerBeginThenEndRestoresSpec) :=
  OpenClaim.holds_of_wide 7 Try.f7 rfl rfl rfl rfl rfl rfl rfl ⟨rfl, rfl, rfl, rfl, rfl⟩ rfl rfl rfl rfl rfl (by kernel_rfl) Try.func7 (by kernel_rfl)
    (of_decide_eq_true (by kernel_rfl)) (by unfold Func.isWrapper; first | (rw [if_pos (by decide +kernel)]; kernel_rfl) | (rw [if_neg (by decide +kernel)]; exact ⟨rfl, rfl⟩))
    (fun os started H enc _ => lifted os started H enc)

/-- ████ THE STATEMENT ████ -/
theorem proved : Rows.FnScannerBeginThenEndRestoresSaid := over
#print axioms proved
end Go.Proofs.Qxb6602231a.fnScannerBeginThenEndRestores
