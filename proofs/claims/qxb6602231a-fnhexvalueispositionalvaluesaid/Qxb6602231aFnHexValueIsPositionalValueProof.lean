/-
  THE PROOF OF 'Rows.FnHexValueIsPositionalValueSaid': the frame was written by program (proof-skeleton.mjs); the walk is ours.
-/
import Derived.Test.Qxb6602231aRows
import Derived.WalkKit
import Derived.ProofKit
import Derived.OpenShut
import Derived.ShutString
import Derived.ChangeOld
import Derived.Below
import Derived.Test.Qxb6602231aDigit
import Derived.Test.Qxb6602231aArg
namespace Go.Proofs.Qxb6602231a.fnHexValueIsPositionalValue
open Go.ChangeShapes Go.WideShapes Go.ChangeAt Go.RowKit
open Go.ChangeMaps (open_string shut_string)
set_option linter.unusedVariables false

theorem own : ownKnob Try.prog.godebug = none := by kernel_rfl
theorem laidOut : laidOutB Try.prog = true := by kernel_rfl

theorem want_step (zs : List Int) (m k : Nat) (hz : zs.length = k) (hm : m < k) :
    (pv (zs.drop (m + 1)) % 4294967296 + hd (zs[m]?.getD 0) * (16 ^ (k - (m + 1)) % 4294967296) % 4294967296) % 4294967296 = pv (zs.drop m) % 4294967296 := by
  subst hz
  rw [List.drop_eq_getElem_cons hm, pv, List.getElem?_eq_getElem hm, List.length_drop]
  simp only [Option.getD_some]
  rw [Int.mul_emod (hd zs[m]) (16 ^ (zs.length - (m + 1)) % 4294967296), Int.emod_emod_of_dvd _ (Int.dvd_refl _), ← Int.mul_emod, ← Int.add_emod, Int.add_comm]
theorem place_step (m k : Nat) (hm : m < k) : (16 : Int) ^ (k - (m + 1)) % 4294967296 * 16 % 4294967296 = 16 ^ (k - m) % 4294967296 := by
  rw [show k - m = (k - (m + 1)) + 1 by omega, Int.pow_succ]
  omega
theorem pos_end (zs : List Int) (m k : Nat) (hz : zs.length = k) (hm : ¬ 0 < m) : (wrap32 (pv (zs.take k)) == wrap32 (pv (zs.drop m) % 4294967296)) = true := by
  obtain rfl : m = 0 := by omega
  subst hz
  rw [List.take_length, List.drop_zero, beq_iff_eq]
  unfold wrap32
  omega
theorem lt_one (m : Nat) (h : ¬ 0 < m) : (m : Int) - 1 < 0 := by omega

theorem bytes9_any (a : Option Addr) (n c : Nat) (w : World) (hn : n ≤ 1048576) :
    Calls Try.prog 9 #[.slice a n c] w fun e w' => e = .returned (.bool true) ∧ w = w' := by
  go_enter Try.func9, Try.ntmps9
  go_wp2
  go_ret
  exact ⟨rfl, rfl⟩
theorem bytes9_no (a : Option Addr) (n c : Nat) (w : World) (hm : n ≤ maxLen) (hn : 1048576 < n) :
    Calls Try.prog 9 #[.slice a n c] w fun e w' => e = .returned (.bool false) ∧ w = w' := by
  unfold maxLen at hm
  go_enter Try.func9, Try.ntmps9
  go_wp2
  go_ret
  exact ⟨rfl, rfl⟩

set_option maxHeartbeats 400000 in
theorem posval (a : Option Addr) (n c : Nat) (zs : List Int) (w : World) (hn : n ≤ 1048576) (hz : zs.length = n) (ha : a = none → n = 0) (hr : Rd w a n (fun i => .int .u8 (zs.getD i 0))) (hb : ∀ i : Nat, 0 ≤ zs[i]?.getD 0 ∧ zs[i]?.getD 0 ≤ 255) :
    Calls Try.prog 3 #[.slice a n c] w fun e w' => e = .returned (.bool true) ∧ Below w.heap.size w w' := by
  have HZ : Hid (zs.length = n) := hz
  have HA : Hid (a = none → n = 0) := ha
  clear hz ha
  go_enter Try.func3, Try.ntmps3
  go_wp2_with (go_at_call 9; refine (bytes9_any _ _ _ _ hn).mono ?_; rintro e w' ⟨rfl, rfl⟩)
  go_loop [3] (fun i => ∃ k : Nat, k ≤ n ∧ i = .int .i64 k ∧ Hid (∀ j : Nat, j < k → 0 ≤ hd (zs[j]?.getD 0))) (fun i => n - (intOf i).toNat)
  case atStart => exact ⟨0, by omega, rfl, fun j h => by omega⟩
  case round =>
    obtain ⟨k, hk, rfl, H⟩ := hrel
    by_cases hlt : k < n
    · obtain ⟨b, off, rfl, hc⟩ := hr k hlt
      have HR := hr
      clear hr
      by_cases hneg : hd (zs[k]?.getD 0) < 0
      · clear HR hb
        go_wp2_with (go_at_call 10; refine (hexDigit_any _ _).mono ?_; rintro e w' ⟨rfl, rfl⟩)
        go_ret
        exact ⟨rfl, Below.refl _ _⟩
      · have hnn : ¬ hd (zs[k]?.getD 0) < 0 := hneg
        clear HR hb
        go_wp2_with (go_at_call 10; refine (hexDigit_any _ _).mono ?_; rintro e w' ⟨rfl, rfl⟩)
        go_round
        case rel => exact ⟨k + 1, by omega, by go_num, fun j hj => by rcases (show j < k ∨ j = k by omega) with h | rfl; exact H.out j h; omega⟩
        case measure => simp [intOf]; omega
    · obtain rfl : k = n := by omega
      have C11 := cloneBytes_any a k c zs w hn HZ.out HA.out hr
      clear hr
      go_wp2_with fail
      refine C11.mono ?_
      rintro e w1 ⟨a', rfl, hown, hbel⟩
      clear C11
      have hrd := rd_of_own hown (f := fun i => .int .u8 (zs.getD i 0)) (by
        intro i hi
        have hl : i < zs.length := by rw [HZ.out]; exact hi
        simp [hl])
      have C12 := zzHexValue_any a' k k zs w1 hn (by rw [HZ.out]; omega) hrd hb H.out
      have HRD : Hid _ := hrd
      have HB : Hid _ := hb
      clear hown hrd hb
      go_wp2_with fail
      refine C12.mono ?_
      rintro e w' ⟨rfl, rfl⟩
      clear C12
      go_wp2
      go_loop [5, 6, 7] (fun want place i => ∃ m : Nat, m ≤ k ∧ i = .int .i64 ((m : Int) - 1) ∧ want = .int .u32 (pv (zs.drop m) % 4294967296) ∧ place = .int .u32 (16 ^ (k - m) % 4294967296)) (fun _ _ i => (intOf i + 1).toNat)
      case atStart => exact ⟨k, Nat.le_refl _, rfl, by rw [List.drop_of_length_le (by rw [HZ.out]; omega)]; rfl, by rw [Nat.sub_self]; rfl⟩
      case round =>
        obtain ⟨m, hm, rfl, rfl, rfl⟩ := hrel
        by_cases hpos : 0 < m
        · obtain ⟨m, rfl⟩ : ∃ m', m = m' + 1 := ⟨m - 1, by omega⟩
          obtain ⟨b, off, rfl, hc⟩ := HRD.out m (by omega)
          have h1 := H.out m (by omega)
          have h2 := (hd_le (zs[m]?.getD 0)).2
          go_wp2_with (go_at_call 10; refine (hexDigit_any _ _).mono ?_; rintro e w' ⟨rfl, rfl⟩)
          go_round
          case rel => exact ⟨m, by omega, rfl, congrArg (Value.int .u32) (want_step zs m k HZ.out (by omega)), congrArg (Value.int .u32) (place_step m k (by omega))⟩
          case measure => simp [intOf]
        · have HE := pos_end zs m k HZ.out hpos
          go_wp2
          go_ret
          exact ⟨rfl, hbel⟩

/-! ### STEP 1: THE WALK -/
theorem walk (a0 : Option Addr) (len0 cap0 : Nat) (z0 : List Int) (w : World) (w0 : IsRow .u8 w a0 len0 cap0 z0) :
    Calls Try.prog 3 #[.slice a0 len0 cap0] w fun e w' => e = .returned (.bool true) ∧ Below w.heap.size w w' := by
  obtain ⟨hm, hl, ha, hr, hb⟩ := rd_of_row w0
  by_cases hn : len0 ≤ 1048576
  · exact posval a0 len0 cap0 (z0.take len0) w hn hl ha hr hb
  · have C9 := bytes9_no a0 len0 cap0 w hm (by omega)
    clear hl ha hr hb
    go_enter Try.func3, Try.ntmps3
    go_wp2_with fail
    refine C9.mono ?_
    rintro e w' ⟨rfl, rfl⟩
    clear C9
    go_wp2
    go_ret
    exact ⟨rfl, Below.refl _ _⟩

/-! ### THE ROW's STEP: WRITTEN OUT: LEAVE IT -/
set_option maxRecDepth 100000 in
theorem lifted (os : Os) (started : os.Started) (H : Type) (enc : TypeId × Value → H) :
    ReturnsInHanded {} Try.checked os 3 .any (Rows.fnHexValueIsPositionalValueSpec.pre6 enc Try.prog Try.f3 Rows.fnHexValueIsPositionalValueRow.domain false) (Rows.fnHexValueIsPositionalValueSpec.post enc Try.prog Try.f3 false true false false) := by
  refine returnsInHanded_of_change (C := Try.checked) own started (by kernel_rfl) Try.func3
    (ChangeSpec.witness6 (enc := enc) (C := Try.checked) false ⟨#[], #[.slice none 0 0], []⟩ 8 (by kernel_rfl) (by kernel_rfl) (by kernel_rfl) (by kernel_rfl)) ?_
  intro W base args ds gs before hval0 hW hcnd _
  have hval : ∀ (j : Nat) t v, Try.f3.params[j]? = some t → args[j]? = some v → Value.okWide Try.prog W .any base t v := hval0
  have hW' := hW
  obtain ⟨p, q, hA0, hV, rfl, hfz, hnd⟩ := hW
  have hA : DataW.TrodAll enc Try.prog W 0 (fun _ => true) true Try.f3.params.toList args.toList ds p := hA0
  rw [Try.params3] at hA hval
  obtain ⟨v0, vs0, d0, ds0, p0, q0, hargs, rfl, rfl, h0, r0⟩ := trodAll_cons hA
  obtain ⟨rfl, rfl, rfl⟩ := trodAll_nil r0
  obtain rfl : args = #[v0] := by cases args; simp_all
  obtain ⟨rfl, rfl⟩ := trodVars_none hV
  obtain ⟨a0, len0, cap0, rfl⟩ := okWide_slice Try.underlying22 (hval 0 22 v0 rfl rfl)
  have k0 := h0
  have lt0 : ∀ x ∈ p0, x.block < W.heap.size := by obtain ⟨m, hm⟩ := k0; exact DataW.trod_lt m _ _ _ hm
  obtain ⟨z0, w0⟩ : ∃ zs, IsRow .u8 W a0 len0 cap0 zs := by
    obtain ⟨fuel, hf⟩ := h0
    rcases open_ints Try.underlying22 Try.underlying5 (by kernel_rfl) hf with ⟨hcs, _⟩ | ⟨x, l, c, zs, hcs, _, hl, hm, hz, _, hcell, hwz⟩
    · simp [Value.cells] at hcs
      obtain ⟨rfl, rfl, rfl⟩ := hcs
      exact ⟨[], .inl ⟨rfl, rfl, rfl, rfl⟩⟩
    · simp [Value.cells] at hcs
      obtain ⟨rfl, rfl, rfl⟩ := hcs
      exact ⟨zs, .inr ⟨_, rfl, hl, hm, by simpa using hz, hcell, hwz⟩⟩
  clear hA0 hval0
  refine (walk a0 len0 cap0 z0 W w0).mono fun e W' ⟨he, bel⟩ => ?_
  subst he
  exact ⟨_, rfl, _, _, _, [], _, [], hW', trodAll_mk1 (shut_bool Try.underlying4 _), (trodAll_cons_mk (Below.trod laidOut (by kernel_rfl) (of_decide_eq_true (by kernel_rfl)) k0 bel lt0) trodAll_mk0), rfl, bel.frame _, fun h => by cases h⟩

theorem over : Rows.fnHexValueIsPositionalValueRow.holds Try.pinned (OpenSpec.ofChange Rows.fnHexValueIsPositionalValueSpec) :=
  OpenClaim.holds_of_wide 3 Try.f3 rfl rfl rfl rfl rfl rfl rfl ⟨rfl, rfl, rfl, rfl, rfl⟩ rfl rfl rfl rfl rfl (by kernel_rfl) Try.func3 (by kernel_rfl)
    (of_decide_eq_true (by kernel_rfl)) (by unfold Func.isWrapper; first | (rw [if_pos (by decide +kernel)]; kernel_rfl) | (rw [if_neg (by decide +kernel)]; exact ⟨rfl, rfl⟩))
    (fun os started H enc _ => lifted os started H enc)

/-- ████ THE STATEMENT ████ -/
theorem proved : Rows.FnHexValueIsPositionalValueSaid := over
#print axioms proved
end Go.Proofs.Qxb6602231a.fnHexValueIsPositionalValue
