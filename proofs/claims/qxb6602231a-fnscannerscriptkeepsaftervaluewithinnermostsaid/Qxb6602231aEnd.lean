import Derived.Test.Qxb6602231aBegin
namespace Go.Proofs.Qxb6602231a
open Go.RowKit

/-- What may follow a value inside the open list bs. -/
def aft (bs : List Bool) : Int := if bs.length = 0 then 8 else if bs.getD (bs.length - 1) false then 6 else 7

section
variable {w : World} {sb B : Nat} {tv : Value} {pos ex : Int} {v : Value} {af : Int} {bs : List Bool}

theorem list_len_n (h : Sc w sb B tv pos ex v bs af) (N : Int) (hN : (bs.length : Int) = N) : Calls Try.prog 31 #[.pointer (some ⟨sb, 3, none⟩)] w fun e w' => e = .returned (.int .i64 N) ∧ w = w' := by
  subst hN; exact list_len h
theorem list_len_q (h : Sc w sb B tv pos ex v bs af) (N : Int) (hN : (bs.length : Int) = N) : Calls Try.prog 31 #[.pointer (some ⟨sb, 3, none⟩)] w fun e w' => e = .returned (.int .i64 N) ∧ w' = w :=
  (list_len_n h N hN).mono fun _ _ ⟨h1, h2⟩ => ⟨h1, h2.symm⟩
theorem list_at_q (h : Sc w sb B tv pos ex v bs af) (i : Nat) (y : Bool) (hy : bs.getD i false = y) (hi : i < bs.length) (hb : bs.length ≤ 1048576) :
    Calls Try.prog 32 #[.pointer (some ⟨sb, 3, none⟩), .int .i64 i] w fun e w' => e = .returned (.bool y) ∧ ∃ q, w' = w.drewN q := by
  subst hy; exact list_at h i hi hb
theorem Tk.drewN {w : World} {g : Nat} {a b c : Value} (h : Tk w g a b c) (q : Nat) : Tk (w.drewN q) g a b c := h
theorem Sc.drewN (h : Sc w sb B tv pos ex v bs af) (q : Nat) : Sc (w.drewN q) sb B tv pos ex v bs af := Raw.drewN h q
end

section
variable {w : World} {sb B : Nat} {ex : Int} {v : Value} {af : Int} {bs : List Bool}

/-- What 'end' leaves. -/
def EndPost (w : World) (sb B tg tl p : Nat) (k : Int) (bs : List Bool) (A : Int) (e : Ending) (w' : World) : Prop :=
  e = .returned (.agg #[.int .u8 k, .int .i64 p, .slice (some ⟨tg, p, none⟩) 1 (tl - p)]) ∧
      ∃ v', Sc w' sb B (.slice (some ⟨tg, 0, none⟩) tl tl) ((p : Int) + 1) A v' bs A ∧ Kp B sb w w'

set_option maxHeartbeats 1000000 in
theorem end_nil (tg tl p : Nat) (k : Int) (b : Bool) (h : Sc w sb B (.slice (some ⟨tg, 0, none⟩) tl tl) p ex v (bs ++ [b]) af) (hp : p < tl) (htl : tl ≤ 1048576) (hb : bs.length < 1048576) (h0 : (bs.length : Int) = 0) :
    Calls Try.prog 33 #[.pointer (some ⟨sb, 0, none⟩), .int .u8 k] w (EndPost w sb B tg tl p k bs 8) := by
  have H0 : Hid _ := h0
  clear h0
  have p1 : (p : Int) < tl := by omega
  have p2 : (p : Int) + 1 ≤ tl := by omega
  have c0 := h.cell0
  have c1 := h.cell1
  have hsb := lt_of_block h.blk
  have H : Hid _ := h
  clear h
  go_enter Try.func33, Try.ntmps33
  go_wp2
  go_region
  go_wp2_with fail
  refine (list_pop ((H.out.alloc _).alloc _).drew hb).mono ?_
  rintro e w1 ⟨rfl, v', hS, hK⟩
  have hn0 : w.heap.size ≠ sb := by omega
  have hn1 : w.heap.size + 1 ≠ sb := by omega
  have t0 : Tk w1 w.heap.size (.int .u8 0) (.int .i64 0) (.slice none 0 0) := ((tk_new w _ _ _).alloc _).drew.keep hK hn0
  have t1 : Tk w1 (w.heap.size + 1) (.int .u8 k) (.int .i64 p) (.slice (some ⟨tg, p, none⟩) 1 (tl - p)) := by
    have := tk_new (w.alloc (.cells #[.int .u8 0, .int .i64 0, .slice none 0 0] 37)) (.int .u8 k) (.int .i64 p) (.slice (some ⟨tg, p, none⟩) 1 (tl - p))
    rw [World.size_alloc] at this
    exact Tk.keep (Tk.drew this) hK hn1
  have hKK : Hid (Kp B sb w w1) := ((((Kp.refl B sb w).alloc _).alloc _).drew).trans hK
  clear hK
  have d1 := hS.cell1
  have d5 := hS.cell5
  have d2 := hS.cell2
  have g5 := hS.frozen 5
  have g1 := hS.frozen 1
  have g2 := hS.frozen 2
  have e00 := t0.c0
  have e01 := t0.c1
  have e02 := t0.c2
  have e0f := t0.fr
  have e10 := t1.c0
  have e11 := t1.c1
  have e12 := t1.c2
  have hlt := lt_of_block t0
  have hov : v'.ownBlock ≠ some w.heap.size := row_ne_tk hS.row t0
  have HS : Hid _ := (((((((hS.set5 8).set1 ((p : Int) + 1)).set2 8).setNew hn0 hov 0 (.int .u8 k)).setNew hn0 hov 1 (.int .i64 p)).setNew hn0 hov 2 (.slice (some ⟨tg, p, none⟩) 1 (tl - p))))
  have H1 : Hid _ := hS
  clear hS t0 t1 c0 c1 H hov
  go_wp2_with (go_at_call 31; refine (list_len_n H1.out 0 H0.out).mono ?_; rintro e w' ⟨rfl, rfl⟩)
  exact bodyPost_ret (v := .agg #[.int .u8 k, .int .i64 p, .slice (some ⟨tg, p, none⟩) 1 (tl - p)]) (by simp [results, Try.results33, go_sem, e00, e01, e02]) rfl ⟨rfl, v', HS.out, (((((hKK.out.setSb 5 _).setSb 1 _).setSb 2 _).setNew (Nat.le_refl _) 0 _).setNew (Nat.le_refl _) 1 _).setNew (Nat.le_refl _) 2 _⟩

set_option maxHeartbeats 1000000 in
theorem end_true (tg tl p q : Nat) (k : Int) (b : Bool) (h : Sc w sb B (.slice (some ⟨tg, 0, none⟩) tl tl) p ex v (bs ++ [b]) af) (hp : p < tl) (htl : tl ≤ 1048576) (hb : bs.length < 1048576) (h0 : (bs.length : Int) = (q : Int) + 1) (hy : bs.getD q false = true) :
    Calls Try.prog 33 #[.pointer (some ⟨sb, 0, none⟩), .int .u8 k] w (EndPost w sb B tg tl p k bs 6) := by
  have H0 : Hid _ := h0
  have HY : Hid _ := hy
  have hq : q ≤ 1048576 := by omega
  clear h0 hy
  have p1 : (p : Int) < tl := by omega
  have p2 : (p : Int) + 1 ≤ tl := by omega
  have c0 := h.cell0
  have c1 := h.cell1
  have hsb := lt_of_block h.blk
  have H : Hid _ := h
  clear h
  go_enter Try.func33, Try.ntmps33
  go_wp2
  go_region
  go_wp2_with fail
  refine (list_pop ((H.out.alloc _).alloc _).drew hb).mono ?_
  rintro e w1 ⟨rfl, v', hS, hK⟩
  have hn0 : w.heap.size ≠ sb := by omega
  have hn1 : w.heap.size + 1 ≠ sb := by omega
  have t0 : Tk w1 w.heap.size (.int .u8 0) (.int .i64 0) (.slice none 0 0) := ((tk_new w _ _ _).alloc _).drew.keep hK hn0
  have t1 : Tk w1 (w.heap.size + 1) (.int .u8 k) (.int .i64 p) (.slice (some ⟨tg, p, none⟩) 1 (tl - p)) := by
    have := tk_new (w.alloc (.cells #[.int .u8 0, .int .i64 0, .slice none 0 0] 37)) (.int .u8 k) (.int .i64 p) (.slice (some ⟨tg, p, none⟩) 1 (tl - p))
    rw [World.size_alloc] at this
    exact Tk.keep (Tk.drew this) hK hn1
  have hKK : Hid (Kp B sb w w1) := ((((Kp.refl B sb w).alloc _).alloc _).drew).trans hK
  clear hK
  have H1 : Hid _ := hS
  clear c0 c1 H
  go_wp2_with (go_at_call 31; refine (list_len_n H1.out ((q : Int) + 1) H0.out).mono ?_; rintro e w' ⟨rfl, rfl⟩)
  go_quiet (first | (go_at_call 31; refine Calls.quiet_of_same (list_len_q (H1.out.drewN _) ((q : Int) + 1) H0.out)) | (go_at_call 32; refine Calls.quiet_of (list_at_q (H1.out.drewN _) q true HY.out (by have := H0.out; omega) (by omega))))
  have d1 := (hS.drewN nq).cell1
  have d5 := (hS.drewN nq).cell5
  have d2 := (hS.drewN nq).cell2
  have g5 := (hS.drewN nq).frozen 5
  have g1 := (hS.drewN nq).frozen 1
  have g2 := (hS.drewN nq).frozen 2
  have t0' := t0.drewN nq
  have t1' := t1.drewN nq
  have hov : v'.ownBlock ≠ some w.heap.size := row_ne_tk hS.row t0
  have hKK' : Hid (Kp B sb w (w1.drewN nq)) := hKK.out.drewN nq
  have HS' : Hid _ := hS.drewN nq
  have HT0 : Hid _ := t0'
  obtain ⟨w2, hw2⟩ : ∃ w2, w2 = w1.drewN nq := ⟨_, rfl⟩
  rw [← hw2] at d1 d5 d2 g5 g1 g2 t0' t1' hKK' HS' HT0 ⊢
  clear hw2 hKK H1 hS t0 t1
  have e00 := t0'.c0
  have e01 := t0'.c1
  have e02 := t0'.c2
  have e0f := t0'.fr
  have e10 := t1'.c0
  have e11 := t1'.c1
  have e12 := t1'.c2
  have hlt := lt_of_block t0'
  clear t0' t1'
  have HS : Hid _ := (((((((HS'.out.set5 6).set1 ((p : Int) + 1)).set2 6).setNew hn0 hov 0 (.int .u8 k)).setNew hn0 hov 1 (.int .i64 p)).setNew hn0 hov 2 (.slice (some ⟨tg, p, none⟩) 1 (tl - p))))
  clear hov
  go_wp2
  exact bodyPost_ret (v := .agg #[.int .u8 k, .int .i64 p, .slice (some ⟨tg, p, none⟩) 1 (tl - p)]) (by simp [results, Try.results33, go_sem, e00, e01, e02]) rfl ⟨rfl, v', HS.out, (((((hKK'.out.setSb 5 _).setSb 1 _).setSb 2 _).setNew (Nat.le_refl _) 0 _).setNew (Nat.le_refl _) 1 _).setNew (Nat.le_refl _) 2 _⟩
set_option maxHeartbeats 1000000 in
theorem end_false (tg tl p q : Nat) (k : Int) (b : Bool) (h : Sc w sb B (.slice (some ⟨tg, 0, none⟩) tl tl) p ex v (bs ++ [b]) af) (hp : p < tl) (htl : tl ≤ 1048576) (hb : bs.length < 1048576) (h0 : (bs.length : Int) = (q : Int) + 1) (hy : bs.getD q false = false) :
    Calls Try.prog 33 #[.pointer (some ⟨sb, 0, none⟩), .int .u8 k] w (EndPost w sb B tg tl p k bs 7) := by
  have H0 : Hid _ := h0
  have HY : Hid _ := hy
  have hq : q ≤ 1048576 := by omega
  clear h0 hy
  have p1 : (p : Int) < tl := by omega
  have p2 : (p : Int) + 1 ≤ tl := by omega
  have c0 := h.cell0
  have c1 := h.cell1
  have hsb := lt_of_block h.blk
  have H : Hid _ := h
  clear h
  go_enter Try.func33, Try.ntmps33
  go_wp2
  go_region
  go_wp2_with fail
  refine (list_pop ((H.out.alloc _).alloc _).drew hb).mono ?_
  rintro e w1 ⟨rfl, v', hS, hK⟩
  have hn0 : w.heap.size ≠ sb := by omega
  have hn1 : w.heap.size + 1 ≠ sb := by omega
  have t0 : Tk w1 w.heap.size (.int .u8 0) (.int .i64 0) (.slice none 0 0) := ((tk_new w _ _ _).alloc _).drew.keep hK hn0
  have t1 : Tk w1 (w.heap.size + 1) (.int .u8 k) (.int .i64 p) (.slice (some ⟨tg, p, none⟩) 1 (tl - p)) := by
    have := tk_new (w.alloc (.cells #[.int .u8 0, .int .i64 0, .slice none 0 0] 37)) (.int .u8 k) (.int .i64 p) (.slice (some ⟨tg, p, none⟩) 1 (tl - p))
    rw [World.size_alloc] at this
    exact Tk.keep (Tk.drew this) hK hn1
  have hKK : Hid (Kp B sb w w1) := ((((Kp.refl B sb w).alloc _).alloc _).drew).trans hK
  clear hK
  have H1 : Hid _ := hS
  clear c0 c1 H
  go_wp2_with (go_at_call 31; refine (list_len_n H1.out ((q : Int) + 1) H0.out).mono ?_; rintro e w' ⟨rfl, rfl⟩)
  go_quiet (first | (go_at_call 31; refine Calls.quiet_of_same (list_len_q (H1.out.drewN _) ((q : Int) + 1) H0.out)) | (go_at_call 32; refine Calls.quiet_of (list_at_q (H1.out.drewN _) q false HY.out (by have := H0.out; omega) (by omega))))
  have d1 := (hS.drewN nq).cell1
  have d5 := (hS.drewN nq).cell5
  have d2 := (hS.drewN nq).cell2
  have g5 := (hS.drewN nq).frozen 5
  have g1 := (hS.drewN nq).frozen 1
  have g2 := (hS.drewN nq).frozen 2
  have t0' := t0.drewN nq
  have t1' := t1.drewN nq
  have hov : v'.ownBlock ≠ some w.heap.size := row_ne_tk hS.row t0
  have hKK' : Hid (Kp B sb w (w1.drewN nq)) := hKK.out.drewN nq
  have HS' : Hid _ := hS.drewN nq
  have HT0 : Hid _ := t0'
  obtain ⟨w2, hw2⟩ : ∃ w2, w2 = w1.drewN nq := ⟨_, rfl⟩
  rw [← hw2] at d1 d5 d2 g5 g1 g2 t0' t1' hKK' HS' HT0 ⊢
  clear hw2 hKK H1 hS t0 t1
  have e00 := t0'.c0
  have e01 := t0'.c1
  have e02 := t0'.c2
  have e0f := t0'.fr
  have e10 := t1'.c0
  have e11 := t1'.c1
  have e12 := t1'.c2
  have hlt := lt_of_block t0'
  clear t0' t1'
  have HS : Hid _ := (((((((HS'.out.set5 7).set1 ((p : Int) + 1)).set2 7).setNew hn0 hov 0 (.int .u8 k)).setNew hn0 hov 1 (.int .i64 p)).setNew hn0 hov 2 (.slice (some ⟨tg, p, none⟩) 1 (tl - p))))
  clear hov
  go_wp2
  exact bodyPost_ret (v := .agg #[.int .u8 k, .int .i64 p, .slice (some ⟨tg, p, none⟩) 1 (tl - p)]) (by simp [results, Try.results33, go_sem, e00, e01, e02]) rfl ⟨rfl, v', HS.out, (((((hKK'.out.setSb 5 _).setSb 1 _).setSb 2 _).setNew (Nat.le_refl _) 0 _).setNew (Nat.le_refl _) 1 _).setNew (Nat.le_refl _) 2 _⟩
end

/-- (*Scanner).end: the innermost entry is gone; expect and afterValue name what may follow. -/
theorem end_any {w : World} {sb B : Nat} {ex : Int} {v : Value} {af : Int} {bs : List Bool} (tg tl p : Nat) (k : Int) (b : Bool) (h : Sc w sb B (.slice (some ⟨tg, 0, none⟩) tl tl) p ex v (bs ++ [b]) af) (hp : p < tl) (htl : tl ≤ 1048576) (hb : bs.length < 1048576) :
    Calls Try.prog 33 #[.pointer (some ⟨sb, 0, none⟩), .int .u8 k] w (EndPost w sb B tg tl p k bs (aft bs)) := by
  by_cases h0 : bs.length = 0
  · have e : aft bs = 8 := by simp only [aft, h0, if_true]
    rw [e]
    exact end_nil tg tl p k b h hp htl hb (by omega)
  · have e : aft bs = if bs.getD (bs.length - 1) false then 6 else 7 := by simp only [aft, h0, if_false]
    rw [e]
    cases hy : bs.getD (bs.length - 1) false with
    | true => simp only [if_true]; exact end_true tg tl p (bs.length - 1) k b h hp htl hb (by omega) hy
    | false => simp only [Bool.false_eq_true, if_false]; exact end_false tg tl p (bs.length - 1) k b h hp htl hb (by omega) hy
end Go.Proofs.Qxb6602231a
