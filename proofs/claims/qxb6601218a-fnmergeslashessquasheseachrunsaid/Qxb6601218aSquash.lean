import Derived.Test.Qxb6601218aMerge
namespace Go.Proofs.Qxb6601218a
open Go.RowKit

theorem is_slash {c : UInt8} (h : c = 47) : ((c.toNat : Int) == 47) = true := by subst h; rfl
theorem no_slash {c : UInt8} (h : c ≠ 47) : ((c.toNat : Int) == 47) = false := by
  rw [beq_eq_false_iff_ne]
  intro e
  exact h (UInt8.toNat_inj.1 (by show c.toNat = 47; omega))
theorem byte_some (r : ByteArray) (R : List UInt8) (h : r.data.toList = R) (j : Nat) (hj : j < r.size) : R[j]? = some (r[j]'hj) := by
  rw [← h, Array.getElem?_toList, Array.getElem?_eq_getElem (by simpa using hj)]; rfl

set_option maxRecDepth 100000 in
set_option maxHeartbeats 1000000 in
theorem squash_any (s r : ByteArray) (w : World) (hs : s.size ≤ 1048576) (hr : r.data.toList = mg s.data.toList s.size) :
    Calls Try.prog 16 #[.string s, .string r] w fun e w' => e = .returned (.bool true) ∧ ∃ q, w' = w.drewN q := by
  have hrl : r.size = (mg s.data.toList s.size).length := by rw [← hr]; simp
  have hrs : r.size ≤ 1048576 := by have := mg_len s.data.toList s.size; omega
  have HRL := hid hrl
  have HR := hid hr
  clear hr hrl
  go_enter Try.func16, Try.ntmps16
  go_wp2
  go_loop [5] (fun i => ∃ j : Nat, j ≤ r.size ∧ i = .int .i64 j) (fun i => r.size - (intOf i).toNat)
  case atStart => exact ⟨0, Nat.zero_le _, rfl⟩
  case round =>
    obtain ⟨j, hj, rfl⟩ := hrel
    by_cases hlt : j + 1 < r.size
    · have h1 : (j : Int) + 1 < r.size := by omega
      have h2 : (j : Int) < r.size := by omega
      have hj0 : j < r.size := by omega
      by_cases hc : r[j]'hj0 = 47
      · have hd : r[j + 1]'hlt ≠ 47 := by
          intro e
          have e1 := byte_some r _ HR.out j hj0
          have e2 := byte_some r _ HR.out (j + 1) hlt
          rw [hc] at e1
          rw [e] at e2
          exact mg_apart _ _ j e1 e2
        have b1 := is_slash hc
        have b2 := no_slash hd
        clear hc hd
        go_wp2
        go_round
        case rel => exact ⟨j + 1, by omega, by go_num⟩
        case measure => simp [intOf]; omega
      · have b1 := no_slash hc
        clear hc hlt
        go_wp2
        go_round
        case rel => exact ⟨j + 1, by omega, by go_num⟩
        case measure => simp [intOf]; omega
    · have h1 : ¬ (j : Int) + 1 < r.size := by omega
      clear hlt
      go_wp2
      go_loopw [6, 7] (fun i jj wr => ∃ a b q : Nat, Hid (At s.data.toList s.size a b) ∧ a ≤ s.size ∧ b ≤ r.size ∧ i = .int .i64 a ∧ jj = .int .i64 b ∧ wr = w.drewN q) (fun _ jj _ => r.size - (intOf jj).toNat)
      case atStart => exact ⟨0, 0, 0, at_zero _ _, Nat.zero_le _, Nat.zero_le _, rfl, rfl, rfl⟩
      case round =>
        obtain ⟨a, b, q, HA, ha, hb, rfl, rfl, rfl⟩ := hrel
        by_cases hb2 : b < r.size
        · have hb3 : (b : Int) < r.size := by omega
          have hbR : b < (mg s.data.toList s.size).length := by rw [← HRL.out]; exact hb2
          have ha2 : a < s.size := at_lt HA.out hbR
          have ha3 : (a : Int) < s.size := by omega
          have hd0 : decide ((s.size : Int) ≤ (a : Int)) = false := by simp; omega
          have hge : ¬ (s.size : Int) ≤ (a : Int) := by omega
          have hsr : s[a]'ha2 = r[b]'hb2 := by
            have e1 := byte_some r _ HR.out b hb2
            rw [at_byte HA.out hbR] at e1
            rw [byte_at s a ha2]
            simpa using e1
          have b1 : (((s[a]'ha2).toNat : Int) != ((r[b]'hb2).toNat : Int)) = false := by rw [hsr]; simp
          have HSA := hid (byte_at s a ha2)
          have HSR := hid hsr
          clear hsr hbR
          by_cases hc : r[b]'hb2 = 47
          · have b2 := is_slash hc
            have HIN := hid (in_start HA.out ha2 (by rw [← HSA.out, HSR.out, hc]))
            clear hc
            go_wp2
            go_quiet (fail)
            go_wp2
            go_loop [6] (fun i => ∃ x : Nat, x ≤ s.size ∧ i = .int .i64 x ∧ Hid (In s.data.toList s.size x (b + 1))) (fun i => s.size - (intOf i).toNat)
            case atStart => exact ⟨a + 1, by omega, by go_num, HIN.out⟩
            case round =>
              obtain ⟨x, hx, rfl, HX⟩ := hrel
              clear HIN
              by_cases hx2 : x < s.size
              · have hx3 : (x : Int) < s.size := by omega
                have hsx := byte_at s x hx2
                by_cases hcx : s[x]'hx2 = 47
                · have b3 := is_slash hcx
                  have HY := hid (in_step HX.out hx2 (by rw [← hsx, hcx]))
                  clear hcx hsx
                  go_wp2
                  go_round
                  case rel => exact ⟨x + 1, by omega, by go_num, HY.out⟩
                  case measure => simp [intOf]; omega
                · have b3 := no_slash hcx
                  have HY := hid (in_end HX.out (fun _ => by rw [← hsx]; exact hcx))
                  clear hcx hsx
                  go_wp2
                  go_roundw
                  case rel => exact ⟨x, b + 1, q + nq, HY.out, hx, by omega, rfl, by go_num, by simp⟩
                  case measure => simp [intOf]; omega
              · have hx3 : ¬ (x : Int) < s.size := by omega
                have HY := hid (in_end HX.out (fun h => absurd h hx2))
                go_wp2
                go_roundw
                case rel => exact ⟨x, b + 1, q + nq, HY.out, hx, by omega, rfl, by go_num, by simp⟩
                case measure => simp [intOf]; omega
          · have b2 := no_slash hc
            have HY := hid (at_plain HA.out ha2 (by rw [← HSA.out, HSR.out]; exact hc))
            clear hc
            go_wp2
            go_quiet (fail)
            go_wp2
            go_roundw
            case rel => exact ⟨a + 1, b + 1, q + nq, HY.out, by omega, by omega, by go_num, by go_num, by simp⟩
            case measure => simp [intOf]; omega
        · have hb3 : ¬ (b : Int) < r.size := by omega
          have hae : a = s.size := at_end HA.out (by rw [← HRL.out]; exact hb2)
          subst hae
          have hee : ((s.size : Int) == (s.size : Int)) = true := by simp
          go_wp2
          go_ret
          exact ⟨rfl, q, rfl⟩
end Go.Proofs.Qxb6601218a
