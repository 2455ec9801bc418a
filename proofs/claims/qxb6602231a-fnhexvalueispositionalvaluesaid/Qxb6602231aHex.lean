import Derived.Test.Qxb6602231aRows
import Derived.WalkKit
import Derived.WalkSpells
import Derived.Outline
import Derived.Test.Qxb6602231aHexPlain
namespace Go.Proofs.Qxb6602231a
open Go.RowKit

theorem ret_int {k : IntKind} {a b : Int} (h : a = b) : Ending.returned (.int k a) = .returned (.int k b) := by rw [h]

theorem hex_low {x c : Int} (h0 : 0 ≤ hd c) (h1 : c ≤ 57) : bits .or .i32 (wrap32 (wrap32 x * 16)) ((c - 48) % 256) = wrap32 (x * 16 + hd c) := by
  have h := hd_low c h0 h1
  rw [show (c - 48) % 256 = hd c by omega, or16 _ _ h0 (by have := hd_le c; omega), wrap32_step]
theorem hex_mid {x c : Int} (h0 : 0 ≤ hd c) (h1 : 57 < c) (h2 : c ≤ 70) : bits .or .i32 (wrap32 (wrap32 x * 16)) (c - 55) = wrap32 (x * 16 + hd c) := by
  have h := hd_mid c h0 h1 h2
  rw [show c - 55 = hd c by omega, or16 _ _ h0 (by have := hd_le c; omega), wrap32_step]
theorem hex_high {x c : Int} (h0 : 0 ≤ hd c) (h2 : 70 < c) : bits .or .i32 (wrap32 (wrap32 x * 16)) ((c - 87) % 256) = wrap32 (x * 16 + hd c) := by
  have h := hd_high c h0 h2
  rw [show (c - 87) % 256 = hd c by omega, or16 _ _ h0 (by have := hd_le c; omega), wrap32_step]
theorem pv_take (zs : List Int) (k : Nat) (h : k < zs.length) : pv (zs.take (k + 1)) = pv (zs.take k) * 16 + hd (zs[k]?.getD 0) := by
  rw [List.take_succ_eq_append_getElem h, pv_snoc]; simp [h]

set_option maxHeartbeats 400000 in
theorem hexValue_any (a : Option Addr) (n c : Nat) (zs : List Int) (w : World) (hn : n ≤ 1048576) (hz : n ≤ zs.length) (hc : ∀ i, i < n → ∃ b off, a = some ⟨b, off, none⟩ ∧ w.cell? ⟨b, off + i, none⟩ = some (.int .u8 (zs.getD i 0))) (hr : ∀ i : Nat, 0 ≤ zs[i]?.getD 0 ∧ zs[i]?.getD 0 ≤ 255) (hh : ∀ i : Nat, i < n → 0 ≤ hd (zs[i]?.getD 0)) :
    Calls Try.prog 28 #[.slice a n c] w fun e w' => e = .returned (.int .i32 (wrap32 (pv (zs.take n)))) ∧ w' = w := by
  go_enter Try.func28, Try.ntmps28
  go_wp2
  go_loop [3, 8] (fun r i => ∃ k : Nat, k ≤ n ∧ i = .int .i64 k ∧ r = .int .i32 (wrap32 (pv (zs.take k)))) (fun _ i => n - (intOf i).toNat)
  case atStart => exact ⟨0, Nat.zero_le _, rfl, by simp [pv, wrap32]⟩
  case round =>
    obtain ⟨k, hk, rfl, rfl⟩ := hrel
    by_cases hlt : k < n
    · obtain ⟨b, off, rfl, hcell⟩ := hc k hlt
      have hb := hr k
      have h0 : Hid (0 ≤ hd (zs[k]?.getD 0)) := hh k hlt
      have hp : Hid (pv (zs.take (k + 1)) = pv (zs.take k) * 16 + hd (zs[k]?.getD 0)) := pv_take zs k (by omega)
      clear hc hh hr
      go_wp2
      all_goals
        go_round
        case rel => exact ⟨k + 1, by omega, by go_num, by rw [hp.out]; first | rw [hex_low h0.out ‹_›] | rw [hex_mid h0.out ‹_› ‹_›] | rw [hex_high h0.out ‹_›]⟩
        case measure => simp [intOf]; omega
    · obtain rfl : k = n := by omega
      clear hc hh hr
      go_wp2
      go_ret
      exact ⟨rfl, rfl⟩

theorem zzHexValue_any (a : Option Addr) (n c : Nat) (zs : List Int) (w : World) (hn : n ≤ 1048576) (hz : n ≤ zs.length) (hc : ∀ i, i < n → ∃ b off, a = some ⟨b, off, none⟩ ∧ w.cell? ⟨b, off + i, none⟩ = some (.int .u8 (zs.getD i 0))) (hr : ∀ i : Nat, 0 ≤ zs[i]?.getD 0 ∧ zs[i]?.getD 0 ≤ 255) (hh : ∀ i : Nat, i < n → 0 ≤ hd (zs[i]?.getD 0)) :
    Calls Try.prog 12 #[.slice a n c] w fun e w' => e = .returned (.int .i32 (wrap32 (pv (zs.take n)))) ∧ w' = w := by
  have H := hexValue_any a n c zs w hn hz hc hr hh
  clear hc hr hh
  go_enter Try.func12, Try.ntmps12
  go_wp2_with fail
  refine H.mono ?_
  rintro e w' ⟨rfl, rfl⟩
  clear H
  go_wp2
  go_ret
  exact ⟨rfl, rfl⟩
end Go.Proofs.Qxb6602231a
