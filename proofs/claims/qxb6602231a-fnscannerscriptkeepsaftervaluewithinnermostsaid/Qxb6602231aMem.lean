import Derived.Test.Qxb6602231aRows
import Derived.WalkKit
import Derived.WalkSpells
import Derived.Outline
namespace Go.Proofs.Qxb6602231a
open Go.RowKit

/-- THE READER's VIEW of a slice of n elements: each of them lies in a cell. -/
def Rd (w : World) (a : Option Addr) (n : Nat) (f : Nat → Value) : Prop :=
  ∀ i, i < n → ∃ b off, a = some ⟨b, off, none⟩ ∧ w.cell? ⟨b, off + i, none⟩ = some (f i)

theorem Rd.below {w w' : World} {a : Option Addr} {n : Nat} {f : Nat → Value} (h : Rd w a n f) (hb : Below w.heap.size w w') : Rd w' a n f := by
  intro i hi
  obtain ⟨b, off, rfl, hc⟩ := h i hi
  refine ⟨b, off, rfl, ?_⟩
  rw [hb.cell (World.block_lt_of_cell? w _ hc)]
  exact hc

theorem rd_of_own {w : World} {B e n cap : Nat} {a : Option Addr} {xs : List Value} (h : w.ownsRow B e 1 (.slice a n cap) n xs) {f : Nat → Value} (hf : ∀ i, i < n → xs[i]? = some (f i)) : Rd w a n f := by
  intro i hi
  rcases h.2 with ⟨h', _⟩ | ⟨g, cap', cur, h', _⟩
  · simp only [Value.slice.injEq] at h'; omega
  · simp only [Value.slice.injEq, true_and] at h'
    obtain ⟨rfl, rfl⟩ := h'
    refine ⟨g, 0, rfl, ?_⟩
    rw [Nat.zero_add, h.cellAt i (by omega)]
    exact hf i hi

theorem own_nil {w : World} {B e n cap : Nat} {a : Option Addr} {xs : List Value} (h : w.ownsRow B e 1 (.slice a n cap) n xs) (ha : a = none) : n = 0 ∧ cap = 0 := by
  rcases h.2 with ⟨h', _⟩ | ⟨g, cap', cur, h', _⟩
  · simp only [Value.slice.injEq] at h'; exact ⟨h'.2.1, h'.2.2⟩
  · simp only [Value.slice.injEq, true_and, ha] at h'; simp at h'

theorem info5 : (Try.prog.info? 5).map (fun i => (i.zero, i.size, i.bytes)) = some (some (.int .u8 0), 1, 1) := by kernel_rfl
theorem info4 : (Try.prog.info? 4).map (fun i => (i.zero, i.size, i.bytes)) = some (some (.bool false), 1, 1) := by kernel_rfl

/-- After k rounds: the first k are copied, the rest is z. -/
def upTo {α : Type} (zs : List α) (z : α) (k : Nat) : List α := zs.take k ++ List.replicate (zs.length - k) z

theorem upTo_zero {α : Type} (zs : List α) (z : α) : upTo zs z 0 = List.replicate zs.length z := by simp [upTo]
theorem upTo_all {α : Type} (zs : List α) (z : α) : upTo zs z zs.length = zs := by simp [upTo]
theorem upTo_step {α : Type} (zs : List α) (z x : α) (k : Nat) (h : zs[k]? = some x) : (upTo zs z k).set k x = upTo zs z (k + 1) := by
  have hk : k < zs.length := by
    rcases Nat.lt_or_ge k zs.length with h' | h'
    · exact h'
    · rw [List.getElem?_eq_none h'] at h; cases h
  have e1 : zs.take (k + 1) = zs.take k ++ [x] := by
    rw [List.take_succ_eq_append_getElem hk]
    rw [List.getElem?_eq_getElem hk] at h
    simp only [Option.some.injEq] at h
    rw [h]
  have e2 : List.replicate (zs.length - k) z = z :: List.replicate (zs.length - (k + 1)) z := by
    rw [← List.replicate_succ]; congr 1; omega
  have e3 : (zs.take k).length = k := by simp; omega
  simp only [upTo, e1, e2]
  rw [List.set_append_right _ _ (by omega), e3]
  simp

/-- One round of a copying loop. -/
theorem own_step {α : Type} (f : α → Value) (zs : List α) (d : α) (v0 : Value) {wr : World} {B e g n cap k : Nat} (h : wr.ownsRow B e 1 (.slice (some ⟨g, 0, none⟩) n cap) n (upTo (zs.map f) v0 k)) (hk : k < zs.length) :
    (wr.setCell ⟨g, k, none⟩ (f (zs[k]?.getD d))).ownsRow B e 1 (.slice (some ⟨g, 0, none⟩) n cap) n (upTo (zs.map f) v0 (k + 1)) := by
  have h1 := (h.stored k (f (zs[k]?.getD d))).1
  rw [upTo_step (zs.map f) v0 (f (zs[k]?.getD d)) k (by simp [hk])] at h1
  exact h1

theorem own_cell {wr : World} {B e g n cap k : Nat} {xs : List Value} (h : wr.ownsRow B e 1 (.slice (some ⟨g, 0, none⟩) n cap) n xs) (hk : k < n) : ∃ v, wr.cell? ⟨g, k, none⟩ = some v := by
  rw [h.cellAt k (by omega)]
  exact ⟨_, List.getElem?_eq_getElem (by rw [h.1]; omega)⟩

theorem rep_len {α : Type} (z : α) {n : Nat} {zs : List α} (h : zs.length = n) : List.replicate n z = upTo zs z 0 := by subst h; exact (upTo_zero zs z).symm

theorem lt_of_own {w : World} {B e n g cap : Nat} {xs : List Value} (h : w.ownsRow B e 1 (.slice (some ⟨g, 0, none⟩) n cap) n xs) : g < w.heap.size := (h.lt g rfl).2

set_option maxHeartbeats 400000 in
theorem cloneBytes_some (ad : Addr) (n c : Nat) (zs : List Int) (w : World) (hn : n ≤ 1048576) (hz : zs.length = n) (hr : Rd w (some ad) n (fun i => .int .u8 (zs.getD i 0))) :
    Calls Try.prog 11 #[.slice (some ad) n c] w fun e w' => e = .returned (.slice (some ⟨w.heap.size, 0, none⟩) n n) ∧ w'.ownsRow w.heap.size 5 1 (.slice (some ⟨w.heap.size, 0, none⟩) n n) n (zs.map (.int .u8)) ∧ Below w.heap.size w w' := by
  have hnil := fun w => Lib.run_eql_slice_nil (P := Try.prog) w 22 5 (some ad) n c 0 0 Try.underlying22
  obtain ⟨i0, hi, hz0, hz1, hz2⟩ := info_parts info5
  have HZ : Hid (zs.length = n) := hz
  clear hz
  go_enter Try.func11, Try.ntmps11
  go_wp2_with (at_make; refine wpList_make_full _ rfl _ _ 22 rfl w.heap.size 5 i0 (.int .u8 0) 1 Try.underlying22 hi hz0 hz1 _ _ _ _ n rfl rfl rfl rfl ?_ ?_ ?_ ?_)
  · rw [hz2]; omega
  · unfold maxLen; omega
  · omega
  intro w1 hown hgrow
  have hb0 : Below w.heap.size w w1 := (Below.refl _ _).grown hgrow (Nat.le_refl _) (by simp)
  rw [toList_madeCells_one] at hown
  have hown0 : Hid (w1.ownsRow w.heap.size 5 1 (.slice (some ⟨w.heap.size, 0, none⟩) n n) n (upTo (zs.map (.int .u8)) (.int .u8 0) 0)) := by
    have := rep_len (Value.int .u8 0) (n := n) (zs := zs.map (.int .u8)) (by simpa using HZ.out)
    rw [← this]; exact hown
  clear hown hgrow hnil hi hz0 hz1 hz2
  go_wp2
  go_loopw [4] (fun i wr => ∃ k : Nat, k ≤ n ∧ i = .int .i64 k ∧ wr.ownsRow w.heap.size 5 1 (.slice (some ⟨w.heap.size, 0, none⟩) n n) n (upTo (zs.map (.int .u8)) (.int .u8 0) k) ∧ Below w.heap.size w wr) (fun i _ => n - (intOf i).toNat)
  case atStart => exact ⟨0, by omega, rfl, hown0, hb0⟩
  case round =>
    obtain ⟨k, hk, rfl, hown, hb⟩ := hrel
    clear hown0 hb0
    by_cases hlt : k < n
    · obtain ⟨b, off, he, hc⟩ := hr.below hb k hlt
      simp only [Option.some.injEq] at he
      subst he
      have hf := hown.frozenAt k
      obtain ⟨v, hv⟩ := own_cell hown hlt
      have H1 : Hid _ := own_step (Value.int .u8) zs 0 _ hown (by rw [HZ.out]; exact hlt)
      have H2 : Hid _ := Below.setCell hb (p := ⟨w.heap.size, k, none⟩) (Nat.le_refl _) (.int .u8 (zs[k]?.getD 0))
      clear hr hown hb
      go_wp2
      go_roundw
      case rel => exact ⟨k + 1, by omega, by go_num, H1.out, H2.out⟩
      case measure => simp [intOf]; omega
    · obtain rfl : k = n := by omega
      have H1 : Hid (wr.ownsRow w.heap.size 5 1 (.slice (some ⟨w.heap.size, 0, none⟩) k k) k (zs.map (.int .u8))) := by
        have e := upTo_all (zs.map (Value.int .u8)) (.int .u8 0)
        rw [List.length_map, HZ.out] at e
        rw [e] at hown; exact hown
      clear hr hown
      go_wp2
      go_ret
      exact ⟨rfl, H1.out, hb⟩

theorem cloneBytes_none (c : Nat) (w : World) : Calls Try.prog 11 #[.slice none 0 c] w fun e w' => e = .returned (.slice none 0 0) ∧ w' = w := by
  have hnil := fun w => Lib.run_eql_slice_nil (P := Try.prog) w 22 5 none 0 c 0 0 Try.underlying22
  go_enter Try.func11, Try.ntmps11
  go_wp2
  go_ret
  exact ⟨rfl, rfl⟩

/-- zzCloneBytes, whatever it is handed: a slice that the caller owns, of the same numbers; nothing old has turned. -/
theorem cloneBytes_any (a : Option Addr) (n c : Nat) (zs : List Int) (w : World) (hn : n ≤ 1048576) (hz : zs.length = n) (ha : a = none → n = 0) (hr : Rd w a n (fun i => .int .u8 (zs.getD i 0))) :
    Calls Try.prog 11 #[.slice a n c] w fun e w' => ∃ a', e = .returned (.slice a' n n) ∧ w'.ownsRow w.heap.size 5 1 (.slice a' n n) n (zs.map (.int .u8)) ∧ Below w.heap.size w w' := by
  cases a with
  | none =>
    obtain rfl := ha rfl
    refine (cloneBytes_none c w).mono ?_
    rintro e w' ⟨rfl, rfl⟩
    obtain rfl : zs = [] := List.eq_nil_of_length_eq_zero hz
    exact ⟨none, rfl, World.ownsRow_nil _ _ _ _, Below.refl _ _⟩
  | some ad =>
    refine (cloneBytes_some ad n c zs w hn hz hr).mono ?_
    rintro e w' ⟨rfl, h1, h2⟩
    exact ⟨_, rfl, h1, h2⟩
end Go.Proofs.Qxb6602231a
