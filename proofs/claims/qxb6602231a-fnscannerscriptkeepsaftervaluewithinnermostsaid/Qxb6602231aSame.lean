import Derived.Test.Qxb6602231aSmall
namespace Go.Proofs.Qxb6602231a
open Go.RowKit

set_option maxHeartbeats 400000 in
theorem cloneBools_some (ad : Addr) (n c : Nat) (zs : List Bool) (w : World) (hn : n ≤ 1048576) (hz : zs.length = n) (hr : Rd w (some ad) n (fun i => .bool (zs.getD i false))) :
    Calls Try.prog 14 #[.slice (some ad) n c] w fun e w' => e = .returned (.slice (some ⟨w.heap.size, 0, none⟩) n n) ∧ w'.ownsRow w.heap.size 4 1 (.slice (some ⟨w.heap.size, 0, none⟩) n n) n (zs.map .bool) ∧ Below w.heap.size w w' := by
  have hnil := fun w => Lib.run_eql_slice_nil (P := Try.prog) w 30 4 (some ad) n c 0 0 Try.underlying30
  obtain ⟨i0, hi, hz0, hz1, hz2⟩ := info_parts info4
  have HZ : Hid (zs.length = n) := hz
  clear hz
  go_enter Try.func14, Try.ntmps14
  go_wp2_with (at_make; refine wpList_make_full _ rfl _ _ 30 rfl w.heap.size 4 i0 (.bool false) 1 Try.underlying30 hi hz0 hz1 _ _ _ _ n rfl rfl rfl rfl ?_ ?_ ?_ ?_)
  · rw [hz2]; omega
  · unfold maxLen; omega
  · omega
  intro w1 hown hgrow
  have hb0 : Below w.heap.size w w1 := (Below.refl _ _).grown hgrow (Nat.le_refl _) (by simp)
  rw [toList_madeCells_one] at hown
  have hown0 : Hid (w1.ownsRow w.heap.size 4 1 (.slice (some ⟨w.heap.size, 0, none⟩) n n) n (upTo (zs.map .bool) (.bool false) 0)) := by
    have := rep_len (Value.bool false) (n := n) (zs := zs.map .bool) (by simpa using HZ.out)
    rw [← this]; exact hown
  clear hown hgrow hnil hi hz0 hz1 hz2
  go_wp2
  go_loopw [4] (fun i wr => ∃ k : Nat, k ≤ n ∧ i = .int .i64 k ∧ wr.ownsRow w.heap.size 4 1 (.slice (some ⟨w.heap.size, 0, none⟩) n n) n (upTo (zs.map .bool) (.bool false) k) ∧ Below w.heap.size w wr) (fun i _ => n - (intOf i).toNat)
  case atStart => exact ⟨0, by omega, rfl, hown0, hb0⟩
  case round =>
    obtain ⟨k, hk, rfl, hown, hb⟩ := hrel
    clear hown0 hb0
    by_cases hlt : k < n
    · obtain ⟨b, off, he, hc⟩ := hr.below hb k hlt
      simp only [Option.some.injEq] at he
      subst he
      have hf := hown.frozenAt k
      obtain ⟨v, hv⟩ := own_cell hown hlt
      have H1 : Hid _ := own_step Value.bool zs false _ hown (by rw [HZ.out]; exact hlt)
      have H2 : Hid _ := Below.setCell hb (p := ⟨w.heap.size, k, none⟩) (Nat.le_refl _) (.bool (zs[k]?.getD false))
      clear hr hown hb
      go_wp2
      go_roundw
      case rel => exact ⟨k + 1, by omega, by go_num, H1.out, H2.out⟩
      case measure => simp [intOf]; omega
    · obtain rfl : k = n := by omega
      have H1 : Hid (wr.ownsRow w.heap.size 4 1 (.slice (some ⟨w.heap.size, 0, none⟩) k k) k (zs.map .bool)) := by
        have e := upTo_all (zs.map Value.bool) (.bool false)
        rw [List.length_map, HZ.out] at e
        rw [e] at hown; exact hown
      clear hr hown
      go_wp2
      go_ret
      exact ⟨rfl, H1.out, hb⟩

theorem cloneBools_none (c : Nat) (w : World) : Calls Try.prog 14 #[.slice none 0 c] w fun e w' => e = .returned (.slice none 0 0) ∧ w' = w := by
  have hnil := fun w => Lib.run_eql_slice_nil (P := Try.prog) w 30 4 none 0 c 0 0 Try.underlying30
  go_enter Try.func14, Try.ntmps14
  go_wp2
  go_ret
  exact ⟨rfl, rfl⟩

/-- zzCloneBools, whatever it is handed: a slice that the caller owns, of the same bools; nothing old has turned. -/
theorem cloneBools_any (a : Option Addr) (n c : Nat) (zs : List Bool) (w : World) (hn : n ≤ 1048576) (hz : zs.length = n) (ha : a = none → n = 0) (hr : Rd w a n (fun i => .bool (zs.getD i false))) :
    Calls Try.prog 14 #[.slice a n c] w fun e w' => ∃ a', e = .returned (.slice a' n n) ∧ w'.ownsRow w.heap.size 4 1 (.slice a' n n) n (zs.map .bool) ∧ Below w.heap.size w w' := by
  cases a with
  | none =>
    obtain rfl := ha rfl
    refine (cloneBools_none c w).mono ?_
    rintro e w' ⟨rfl, rfl⟩
    obtain rfl : zs = [] := List.eq_nil_of_length_eq_zero hz
    exact ⟨none, rfl, World.ownsRow_nil _ _ _ _, Below.refl _ _⟩
  | some ad =>
    refine (cloneBools_some ad n c zs w hn hz hr).mono ?_
    rintro e w' ⟨rfl, h1, h2⟩
    exact ⟨_, rfl, h1, h2⟩

set_option maxHeartbeats 400000 in
/-- zzSameBools of two slices that hold the same. -/
theorem sameBools_eq (a b : Option Addr) (c d : Nat) (bs : List Bool) (n : Nat) (w : World) (hb : n ≤ 1048577) (hr : Rd w a n (fun i => .bool (bs.getD i false))) (hs : Rd w b n (fun i => .bool (bs.getD i false))) :
    Calls Try.prog 18 #[.slice a n c, .slice b n d] w fun e w' => e = .returned (.bool true) ∧ ∃ q, w' = w.drewN q := by
  have h0 : ((n : Int) != (n : Int)) = false := by simp
  go_enter Try.func18, Try.ntmps18
  go_wp2
  go_loopw [5] (fun i wr => ∃ k q : Nat, k ≤ n ∧ i = .int .i64 k ∧ wr = w.drewN q) (fun i _ => n - (intOf i).toNat)
  case atStart => exact ⟨0, 0, by omega, rfl, rfl⟩
  case round =>
    obtain ⟨k, q, hk, rfl, rfl⟩ := hrel
    by_cases hlt : k < n
    · obtain ⟨b1, o1, rfl, c1⟩ := hr k hlt
      obtain ⟨b2, o2, rfl, c2⟩ := hs k hlt
      obtain ⟨y, hy⟩ : ∃ y, bs.getD k false = y := ⟨_, rfl⟩
      simp only [hy] at c1 c2
      have hlt' : (k : Int) < n := by omega
      have hyy : (y != y) = false := by simp
      clear hr hs hy
      go_wp2
      go_quiet (fail)
      go_wp2
      go_roundw
      case rel => exact ⟨k + 1, q + nq, by omega, by go_num, by simp⟩
      case measure => simp [intOf]; omega
    · clear hr hs
      go_wp2
      go_ret
      exact ⟨rfl, q, rfl⟩

set_option maxHeartbeats 400000 in
/-- zzSameBytes of two slices that hold the same. -/
theorem sameBytes_eq (a b : Option Addr) (c d : Nat) (zs : List Int) (n : Nat) (w : World) (hb : n ≤ 1048577) (hr : Rd w a n (fun i => .int .u8 (zs.getD i 0))) (hs : Rd w b n (fun i => .int .u8 (zs.getD i 0))) :
    Calls Try.prog 20 #[.slice a n c, .slice b n d] w fun e w' => e = .returned (.bool true) ∧ ∃ q, w' = w.drewN q := by
  have h0 : ((n : Int) != (n : Int)) = false := by simp
  go_enter Try.func20, Try.ntmps20
  go_wp2
  go_loopw [5] (fun i wr => ∃ k q : Nat, k ≤ n ∧ i = .int .i64 k ∧ wr = w.drewN q) (fun i _ => n - (intOf i).toNat)
  case atStart => exact ⟨0, 0, by omega, rfl, rfl⟩
  case round =>
    obtain ⟨k, q, hk, rfl, rfl⟩ := hrel
    by_cases hlt : k < n
    · obtain ⟨b1, o1, rfl, c1⟩ := hr k hlt
      obtain ⟨b2, o2, rfl, c2⟩ := hs k hlt
      obtain ⟨y, hy⟩ : ∃ y, zs.getD k 0 = y := ⟨_, rfl⟩
      simp only [hy] at c1 c2
      have hlt' : (k : Int) < n := by omega
      have hyy : (y != y) = false := by simp
      clear hr hs hy
      go_wp2
      go_quiet (fail)
      go_wp2
      go_roundw
      case rel => exact ⟨k + 1, q + nq, by omega, by go_num, by simp⟩
      case measure => simp [intOf]; omega
    · clear hr hs
      go_wp2
      go_ret
      exact ⟨rfl, q, rfl⟩
end Go.Proofs.Qxb6602231a
