import Derived.Test.Qxb6601218aBuilder
import Derived.Test.Qxb6601218aShelf
import Derived.Test.Qxb6601218aMg
namespace Go.Proofs.Qxb6601218a
open Go.RowKit

theorem byte_at (s : ByteArray) (k : Nat) (h : k < s.size) : s[k]'h = s.data.toList.getD k 0 := by
  have e : s.data.toList[k]? = some (s[k]'h) := by
    rw [Array.getElem?_toList, Array.getElem?_eq_getElem (by simpa using h)]; rfl
  rw [List.getD_eq_getElem?_getD, e]; rfl
theorem ne_slash {c : UInt8} (h : c ≠ 47) : ((c.toNat : Int) != 47) = true := by
  rw [bne_iff_ne]
  intro e
  exact h (UInt8.toNat_inj.1 (by show c.toNat = 47; omega))
theorem eq_slash {c : UInt8} (h : c = 47) : ((c.toNat : Int) != 47) = false := by subst h; rfl

set_option maxRecDepth 100000 in
set_option maxHeartbeats 1000000 in
theorem merge_any (s : ByteArray) (w : World) (hs : s.size ≤ 1048576) :
    Calls Try.prog 20 #[.string s] w fun e w' => e = .returned (.string ⟨(mg s.data.toList s.size).toArray⟩) ∧ Below w.heap.size w w' := by
  go_enter Try.func20, Try.ntmps20
  go_wp2
  go_loopw [4] (fun i wr => ∃ k : Nat, k ≤ s.size ∧ i = .int .i64 k ∧ Lib.IsBuilder 31 5 w.heap.size w.heap.size (Lib.byteCells (mg s.data.toList k)) wr ∧ Below w.heap.size w wr) (fun i _ => s.size - (intOf i).toNat)
  case atStart => exact ⟨0, Nat.zero_le _, rfl, Lib.fresh_isBuilder 31 5 w, (Below.refl _ _).alloc (Nat.le_refl _) _⟩
  case round =>
    obtain ⟨k, hk2, rfl, hI, hB⟩ := hrel
    have HI := hid hI
    have HB := hid hB
    clear hI hB
    by_cases hlt : k < s.size
    · have hlt' : (k : Int) < s.size := by omega
      have HCK := hid (byte_at s k hlt)
      by_cases hc : s[k]'hlt = 47
      · have b1 := eq_slash hc
        by_cases h0 : k = 0
        · have b2 : ((k : Int) == 0) = true := by rw [beq_iff_eq]; omega
          have hk : keep s.data.toList k = true := by simp [keep, h0]
          clear h0 hc
          have HM := hid (mg_yes hk)
          clear hk
          go_wp2_with fail
          refine (writeByte_any w.heap.size w.heap.size _ ((s[k]'hlt).toNat : Int) wr HI.out (by rw [Lib.byteCells_length]; have := mg_len s.data.toList k; omega) HB.out.size).mono ?_
          rintro e w1 ⟨rfl, h1, b1⟩
          have R1 := hid (show Lib.IsBuilder 31 5 w.heap.size w.heap.size (Lib.byteCells (mg s.data.toList (k + 1))) w1 by
            rw [HM.out, Lib.byteCells_append]
            have hck := HCK.out
            rw [hck] at h1
            exact Or.inr h1)
          have R2 := hid (HB.out.trans b1)
          clear h1 b1 HI HB
          go_wp2
          go_roundw
          case rel => exact ⟨k + 1, by omega, by go_num, R1.out, R2.out⟩
          case measure => simp [intOf]; omega
        · obtain ⟨m, rfl⟩ : ∃ m, k = m + 1 := ⟨k - 1, by omega⟩
          have hm : m < s.size := by omega
          have hm' : (m : Int) < s.size := by omega
          have b2 : ((m : Int) + 1 == 0) = false := by rw [beq_eq_false_iff_ne]; omega
          have hcm := byte_at s m hm
          by_cases hp : s[m]'hm = 47
          · have b3 := eq_slash hp
            have hk : keep s.data.toList (m + 1) = false := by
              unfold keep
              rw [← HCK.out, hc, show m + 1 - 1 = m by omega, ← hcm, hp]; rfl
            have HM := hid (mg_no hk)
            clear hk hc hp hcm h0
            go_wp2
            go_roundw
            case rel => exact ⟨m + 1 + 1, by omega, by go_num, by rw [HM.out]; exact HI.out, HB.out⟩
            case measure => simp [intOf]; omega
          · have b3 := ne_slash hp
            have hk : keep s.data.toList (m + 1) = true := by
              unfold keep
              rw [show m + 1 - 1 = m by omega, ← hcm, bne_iff_ne.2 hp]; simp
            clear hc hp hcm h0
            have HM := hid (mg_yes hk)
            clear hk
            go_wp2_with fail
            refine (writeByte_any w.heap.size w.heap.size _ ((s[m + 1]'hlt).toNat : Int) wr HI.out (by rw [Lib.byteCells_length]; have := mg_len s.data.toList (m + 1); omega) HB.out.size).mono ?_
            rintro e w1 ⟨rfl, h1, b1⟩
            have R1 := hid (show Lib.IsBuilder 31 5 w.heap.size w.heap.size (Lib.byteCells (mg s.data.toList (m + 1 + 1))) w1 by
              rw [HM.out, Lib.byteCells_append]
              have hck := HCK.out
              rw [hck] at h1
              exact Or.inr h1)
            have R2 := hid (HB.out.trans b1)
            clear h1 b1 HI HB
            go_wp2
            go_roundw
            case rel => exact ⟨m + 1 + 1, by omega, by go_num, R1.out, R2.out⟩
            case measure => simp [intOf]; omega
      · have b1 := ne_slash hc
        have hk : keep s.data.toList k = true := by unfold keep; rw [← HCK.out, bne_iff_ne.2 hc]; rfl
        clear hc
        have HM := hid (mg_yes hk)
        clear hk
        go_wp2_with fail
        refine (writeByte_any w.heap.size w.heap.size _ ((s[k]'hlt).toNat : Int) wr HI.out (by rw [Lib.byteCells_length]; have := mg_len s.data.toList k; omega) HB.out.size).mono ?_
        rintro e w1 ⟨rfl, h1, b1⟩
        have R1 := hid (show Lib.IsBuilder 31 5 w.heap.size w.heap.size (Lib.byteCells (mg s.data.toList (k + 1))) w1 by
          rw [HM.out, Lib.byteCells_append]
          have hck := HCK.out
          rw [hck] at h1
          exact Or.inr h1)
        have R2 := hid (HB.out.trans b1)
        clear h1 b1 HI HB
        go_wp2
        go_roundw
        case rel => exact ⟨k + 1, by omega, by go_num, R1.out, R2.out⟩
        case measure => simp [intOf]; omega
    · obtain rfl : k = s.size := by omega
      go_wp2_with fail
      refine (Try.Builder_String_any w.heap.size w.heap.size _ wr HI.out HB.out.size).mono ?_
      rintro e w1 ⟨rfl, b1⟩
      have R2 := hid (HB.out.trans b1)
      clear b1 HB HI
      go_wp2
      go_ret
      exact ⟨rfl, R2.out⟩

theorem zzMerge_any (s : ByteArray) (w : World) (hs : s.size ≤ 1048576) :
    Calls Try.prog 17 #[.string s] w fun e w' => e = .returned (.string ⟨(mg s.data.toList s.size).toArray⟩) ∧ Below w.heap.size w w' := by
  have C := merge_any s w hs
  go_enter Try.func17, Try.ntmps17
  go_wp2_with fail
  refine C.mono ?_
  rintro e w1 ⟨rfl, b1⟩
  clear C
  go_wp2
  go_ret
  exact ⟨rfl, b1⟩
end Go.Proofs.Qxb6601218a
