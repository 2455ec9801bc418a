import Derived.Test.Qxb6602231aEnd
namespace Go.Proofs.Qxb6602231a
open Go.RowKit

section
variable {w : World} {sb B : Nat} {ex : Int} {v : Value} {af : Int} {bs : List Bool}

set_option maxHeartbeats 1000000 in
theorem zzEnd_any (tg tl p : Nat) (k A : Int) (b : Bool) (h : Sc w sb B (.slice (some ⟨tg, 0, none⟩) tl tl) p ex v (bs ++ [b]) af) (hp : p < tl) (htl : tl ≤ 1048576) (hb : bs.length < 1048576) (hA : aft bs = A) :
    Calls Try.prog 23 #[.pointer (some ⟨sb, 0, none⟩), .int .u8 k] w (EndPost w sb B tg tl p k bs A) := by
  have hsb := lt_of_block h.blk
  have hn0 : w.heap.size ≠ sb := by omega
  have H : Hid _ := h
  have HA : Hid _ := hA
  clear h hA
  go_enter Try.func23, Try.ntmps23
  go_wp2_with fail
  refine (end_any tg tl p k b (Raw.alloc H.out _) hp htl hb).mono ?_
  rw [HA.out]
  rintro e w1 ⟨rfl, v', hS, hK⟩
  have t0 : Tk w1 w.heap.size (.int .u8 0) (.int .i64 0) (.slice none 0 0) := (tk_new w _ _ _).keep hK hn0
  have hKK : Hid (Kp B sb w w1) := ((Kp.refl B sb w).alloc _).trans hK
  clear hK
  have e00 := t0.c0
  have e01 := t0.c1
  have e02 := t0.c2
  have e0f := t0.fr
  have hlt := lt_of_block t0
  have hov : v'.ownBlock ≠ some w.heap.size := row_ne_tk hS.row t0
  have HS : Hid _ := (((hS.setNew hn0 hov 0 (.int .u8 k)).setNew hn0 hov 1 (.int .i64 p)).setNew hn0 hov 2 (.slice (some ⟨tg, p, none⟩) 1 (tl - p)))
  clear hS t0 H hov
  go_wp2
  exact bodyPost_ret (v := .agg #[.int .u8 k, .int .i64 p, .slice (some ⟨tg, p, none⟩) 1 (tl - p)]) (by simp [results, Try.results23, go_sem, e00, e01, e02]) rfl ⟨rfl, v', HS.out, ((hKK.out.setNew (Nat.le_refl _) 0 _).setNew (Nat.le_refl _) 1 _).setNew (Nat.le_refl _) 2 _⟩
end

section
variable {w : World} {sb B : Nat} {tv : Value} {pos ex : Int} {v : Value} {af : Int} {bs : List Bool}

set_option maxHeartbeats 400000 in
theorem zzCursor_any (h : Sc w sb B tv pos ex v bs af) : Calls Try.prog 17 #[.pointer (some ⟨sb, 0, none⟩)] w fun e w' => e = .returned (.tuple #[.int .i64 pos, .int .u8 ex, .int .u8 af]) ∧ ∃ q, w' = w.drewN q := by
  have c1 := h.cell1
  have c2 := h.cell2
  have c5 := h.cell5
  clear h
  go_enter Try.func17, Try.ntmps17
  go_wp2
  go_quiet (fail)
  go_wp2
  go_ret3
  exact ⟨rfl, nq, rfl⟩

theorem zzText_any (a : Option Addr) (n c : Nat) (h : Sc w sb B (.slice a n c) pos ex v bs af) : Calls Try.prog 21 #[.pointer (some ⟨sb, 0, none⟩)] w fun e w' => e = .returned (.slice a n c) ∧ w = w' := by
  have c0 := h.cell0
  clear h
  go_enter Try.func21, Try.ntmps21
  go_wp2
  go_ret
  exact ⟨rfl, rfl⟩

set_option maxHeartbeats 400000 in
theorem depthTop_nil (h : Sc w sb B tv pos ex v bs af) (h0 : (bs.length : Int) = 0) : Calls Try.prog 27 #[.pointer (some ⟨sb, 0, none⟩)] w fun e w' => e = .returned (.tuple #[.int .i64 0, .bool false]) ∧ ∃ q, w' = w.drewN q := by
  have H0 : Hid _ := h0
  have H : Hid _ := h
  clear h h0
  go_enter Try.func27, Try.ntmps27
  go_wp2_with (go_at_call 31; refine (list_len_n H.out 0 H0.out).mono ?_; rintro e w' ⟨rfl, rfl⟩)
  go_ret2
  exact ⟨rfl, 0, rfl⟩
set_option maxHeartbeats 400000 in
theorem depthTop_some (q : Nat) (h : Sc w sb B tv pos ex v bs af) (h0 : (bs.length : Int) = (q : Int) + 1) (hq : q < 1048576) : Calls Try.prog 27 #[.pointer (some ⟨sb, 0, none⟩)] w fun e w' => e = .returned (.tuple #[.int .i64 ((q : Int) + 1), .bool (bs.getD q false)]) ∧ ∃ q, w' = w.drewN q := by
  have H0 : Hid _ := h0
  have H : Hid _ := h
  clear h h0
  obtain ⟨y, hy⟩ : ∃ y, bs.getD q false = y := ⟨_, rfl⟩
  rw [hy]
  have HY : Hid _ := hy
  clear hy
  go_enter Try.func27, Try.ntmps27
  go_wp2_with (first | (go_at_call 31; refine (list_len_n H.out ((q : Int) + 1) H0.out).mono ?_; rintro e w' ⟨rfl, rfl⟩) | (go_at_call 32; refine (list_at_q H.out q y HY.out (by have := H0.out; omega) (by have := H0.out; omega)).mono ?_; rintro e w' ⟨rfl, qq, rfl⟩))
  go_ret2
  exact ⟨rfl, _, rfl⟩
end

set_option maxHeartbeats 400000 in
/-- zzAfterFor. -/
theorem after_any (a : Option Addr) (c : Nat) (bs : List Bool) (w : World) (hb : bs.length ≤ 1048576) (hr : Rd w a bs.length (fun i => .bool (bs.getD i false))) :
    Calls Try.prog 24 #[.slice a bs.length c] w fun e w' => e = .returned (.int .u8 (aft bs)) ∧ w = w' := by
  by_cases h0 : bs.length = 0
  · have e : aft bs = 8 := by simp only [aft, h0, if_true]
    rw [e, h0]
    clear hr e h0 hb
    go_enter Try.func24, Try.ntmps24
    go_wp2
    go_ret
    exact ⟨rfl, rfl⟩
  · obtain ⟨q, hq⟩ : ∃ q, bs.length = q + 1 := ⟨bs.length - 1, by omega⟩
    obtain ⟨b, off, rfl, hc⟩ := hr q (by omega)
    have e : aft bs = if bs.getD q false then 6 else 7 := by simp only [aft, h0, if_false]; rw [show bs.length - 1 = q by omega]
    rw [e, hq]
    rw [hq] at hb
    cases hy : bs.getD q false with
    | true =>
      simp only [hy, if_true] at hc ⊢
      clear hr e h0 hy hq
      go_enter Try.func24, Try.ntmps24
      go_wp2
      go_ret
      exact ⟨rfl, rfl⟩
    | false =>
      simp only [hy, Bool.false_eq_true, if_false] at hc ⊢
      clear hr e h0 hy hq
      go_enter Try.func24, Try.ntmps24
      go_wp2
      go_ret
      exact ⟨rfl, rfl⟩
end Go.Proofs.Qxb6602231a
