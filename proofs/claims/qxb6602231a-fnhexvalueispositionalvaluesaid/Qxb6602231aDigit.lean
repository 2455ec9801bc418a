import Derived.Test.Qxb6602231aHex
namespace Go.Proofs.Qxb6602231a
open Go.RowKit

theorem lo_tab : ∀ k : Fin 16, ((((⟨#[48, 49, 50, 51, 52, 53, 54, 55, 56, 57, 97, 98, 99, 100, 101, 102]⟩ : ByteArray)[k.val]'k.isLt).toNat : Nat) : Int) = if k.val < 10 then 48 + (k.val : Int) else 87 + (k.val : Int) := by decide
theorem up_tab : ∀ k : Fin 16, ((((⟨#[48, 49, 50, 51, 52, 53, 54, 55, 56, 57, 65, 66, 67, 68, 69, 70]⟩ : ByteArray)[k.val]'k.isLt).toNat : Nat) : Int) = if k.val < 10 then 48 + (k.val : Int) else 55 + (k.val : Int) := by decide

theorem hd_lo (c : Int) (k : Nat) (h : k < 16) (hc : c = ((((⟨#[48, 49, 50, 51, 52, 53, 54, 55, 56, 57, 97, 98, 99, 100, 101, 102]⟩ : ByteArray)[k]'h).toNat : Nat) : Int)) : hd c = k := by
  rw [hc, lo_tab ⟨k, h⟩]
  by_cases h10 : k < 10
  · simp only [h10, if_true, hd]; split <;> omega
  · simp only [h10, if_false, hd]; split <;> (try split) <;> (try split) <;> omega
theorem hd_up (c : Int) (k : Nat) (h : k < 16) (hc : c = ((((⟨#[48, 49, 50, 51, 52, 53, 54, 55, 56, 57, 65, 66, 67, 68, 69, 70]⟩ : ByteArray)[k]'h).toNat : Nat) : Int)) : hd c = k := by
  rw [hc, up_tab ⟨k, h⟩]
  by_cases h10 : k < 10
  · simp only [h10, if_true, hd]; split <;> omega
  · simp only [h10, if_false, hd]; split <;> (try split) <;> (try split) <;> omega
theorem hd_none (c : Int) (k : Nat) (h : k < 16) (h1 : ¬ c = ((((⟨#[48, 49, 50, 51, 52, 53, 54, 55, 56, 57, 97, 98, 99, 100, 101, 102]⟩ : ByteArray)[k]'h).toNat : Nat) : Int))
    (h2 : ¬ c = ((((⟨#[48, 49, 50, 51, 52, 53, 54, 55, 56, 57, 65, 66, 67, 68, 69, 70]⟩ : ByteArray)[k]'h).toNat : Nat) : Int)) : hd c ≠ k := by
  rw [lo_tab ⟨k, h⟩] at h1
  rw [up_tab ⟨k, h⟩] at h2
  intro he
  by_cases h10 : k < 10
  · simp only [h10, if_true] at h1 h2
    unfold hd at he; split at he <;> (try split at he) <;> (try split at he) <;> omega
  · simp only [h10, if_false] at h1 h2
    unfold hd at he; split at he <;> (try split at he) <;> (try split at he) <;> omega

set_option maxHeartbeats 400000 in
theorem hexDigit_any (c : Int) (w : World) :
    Calls Try.prog 10 #[.int .u8 c] w fun e w' => e = .returned (.int .i64 (hd c)) ∧ w = w' := by
  go_enter Try.func10, Try.ntmps10
  go_wp2
  go_loop [3] (fun i => ∃ (k : Nat), k ≤ 16 ∧ i = .int .i64 k ∧ Hid (0 ≤ hd c → k ≤ hd c)) (fun i => 16 - (intOf i).toNat)
  case atStart => exact ⟨0, by omega, rfl, fun h => h⟩
  case round =>
    obtain ⟨k, hk, rfl, H⟩ := hrel
    by_cases hlt : k < 16
    · have hlt' : (k : Int) < 16 := by omega
      by_cases hA : c = ((((⟨#[48, 49, 50, 51, 52, 53, 54, 55, 56, 57, 97, 98, 99, 100, 101, 102]⟩ : ByteArray)[k]'hlt).toNat : Nat) : Int)
      · have b1 := beq_iff_eq.2 hA
        have E : Hid (hd c = k) := hd_lo c k hlt hA
        clear hA
        go_wp2
        go_ret
        exact ⟨ret_int E.out.symm, rfl⟩
      · have b1 := beq_eq_false_iff_ne.2 hA
        by_cases hB : c = ((((⟨#[48, 49, 50, 51, 52, 53, 54, 55, 56, 57, 65, 66, 67, 68, 69, 70]⟩ : ByteArray)[k]'hlt).toNat : Nat) : Int)
        · have b2 := beq_iff_eq.2 hB
          have E : Hid (hd c = k) := hd_up c k hlt hB
          clear hA hB
          go_wp2
          go_ret
          exact ⟨ret_int E.out.symm, rfl⟩
        · have b2 := beq_eq_false_iff_ne.2 hB
          have E : Hid (hd c ≠ k) := hd_none c k hlt hA hB
          clear hA hB
          go_wp2
          go_round
          case rel => exact ⟨k + 1, by omega, by go_num, fun h0 => by have := H.out h0; have := E.out; omega⟩
          case measure => simp [intOf]; omega
    · have E : Hid (hd c = -1) := by have := H.out; have := hd_le c; show _ = _; omega
      go_wp2
      go_ret
      exact ⟨ret_int E.out.symm, rfl⟩
end Go.Proofs.Qxb6602231a
