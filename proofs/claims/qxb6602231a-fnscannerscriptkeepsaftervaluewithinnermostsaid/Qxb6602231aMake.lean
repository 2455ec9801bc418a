import Derived.Test.Qxb6602231aOpen
import Derived.Deep.RegionWith
namespace Go.Proofs.Qxb6602231a
open Go.RowKit

theorem sc_new (w : World) (tv : Value) (pos ex af : Int) : Sc (w.alloc (.cells #[tv, .int .i64 pos, .int .u8 ex, .slice none 0 0, .int .i64 0, .int .u8 af] 56)) w.heap.size w.heap.size tv pos ex (.slice none 0 0) [] af :=
  ⟨heap_alloc_new w _, World.ownsRow_nil _ _ _ _, by simp⟩

theorem take_bool (bs : List Bool) (k : Nat) (y : Bool) (h : k < bs.length) (hy : bs.getD k false = y) : bs.take k ++ [y] = bs.take (k + 1) := by
  rw [List.take_succ_eq_append_getElem h, ← hy]; simp [h]

set_option maxHeartbeats 1000000 in
theorem zzMake_any (ta oa : Option Addr) (tl tc n oc : Nat) (pos ex af : Int) (bs : List Bool) (w : World) (hn : bs.length = n) (hb : n ≤ 1048576) (hr : Rd w oa n (fun i => .bool (bs.getD i false))) :
    Calls Try.prog 15 #[.slice ta tl tc, .int .i64 pos, .int .u8 ex, .slice oa n oc, .int .u8 af] w fun e w' => e = .returned (.pointer (some ⟨w.heap.size, 0, none⟩)) ∧ ∃ v, Sc w' w.heap.size w.heap.size (.slice ta tl tc) pos ex v bs af ∧ Below w.heap.size w w' := by
  have HN : Hid (bs.length = n) := hn
  clear hn
  go_enter Try.func15, Try.ntmps15
  go_wp2
  go_loopw [12] (fun i wr => ∃ (k : Nat) (v : Value), k ≤ n ∧ i = .int .i64 k ∧ Sc wr w.heap.size w.heap.size (.slice ta tl tc) pos ex v (bs.take k) af ∧ Below w.heap.size w wr) (fun i _ => n - (intOf i).toNat)
  case atStart => exact ⟨0, .slice none 0 0, by omega, rfl, sc_new w _ _ _ _, (Below.refl _ _).alloc (Nat.le_refl _) _⟩
  case round =>
    obtain ⟨k, v, hk, rfl, hS, hb2⟩ := hrel
    by_cases hlt : k < n
    · obtain ⟨b1, o1, rfl, c1⟩ := hr.below hb2 k hlt
      have hlt' : (k : Int) < n := by omega
      have hl : (bs.take k).length < 1048576 := by rw [List.length_take, HN.out]; omega
      have HB : Hid _ := hb2
      have HS : Hid (Sc wr w.heap.size w.heap.size (.slice ta tl tc) pos ex v (bs.take k) af) := hS
      obtain ⟨y, hy⟩ : ∃ y, bs.getD k false = y := ⟨_, rfl⟩
      simp only [hy] at c1
      have HY : Hid _ := hy
      clear hr hb2 hS hy
      go_wp2
      go_region_with (go_at_call 29; refine (list_append (Raw.drew HS.out) y hl).mono ?_; rintro e w2 ⟨rfl, v2, hS2, hK2⟩)
      have R2 : Hid (Sc w2 w.heap.size w.heap.size (.slice ta tl tc) pos ex v2 (bs.take (k + 1)) af) := by
        rw [take_bool bs k y (by rw [HN.out]; exact hlt) HY.out] at hS2
        exact hS2
      have hB2 : Hid (Below w.heap.size w w2) := (Below.drew HB.out).trans (hK2.below (Nat.le_refl _) (Nat.le_refl _) HB.out.size)
      clear hS2 hK2
      go_wp2
      go_roundw
      case rel => exact ⟨k + 1, v2, by omega, by go_num, R2.out, hB2.out⟩
      case measure => simp [intOf]; omega
    · have R2 : Hid (Sc wr w.heap.size w.heap.size (.slice ta tl tc) pos ex v bs af) := by
        rw [List.take_of_length_le (by rw [HN.out]; omega)] at hS
        exact hS
      clear hr hS
      go_wp2
      go_ret
      exact ⟨rfl, v, R2.out, hb2⟩
end Go.Proofs.Qxb6602231a
