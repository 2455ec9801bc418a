import Derived.Test.Qxb6602231aListPop
namespace Go.Proofs.Qxb6602231a
open Go.RowKit

/-- A token's block: three cells. -/
def Tk (w : World) (g : Nat) (a b c : Value) : Prop := w.heap[g]? = some (.cells #[a, b, c] 37 (0, 0))
theorem Tk.c0 {w : World} {g : Nat} {a b c : Value} (h : Tk w g a b c) : w.cell? ⟨g, 0, none⟩ = some a := blk_cell h rfl
theorem Tk.c1 {w : World} {g : Nat} {a b c : Value} (h : Tk w g a b c) : w.cell? ⟨g, 1, none⟩ = some b := blk_cell h rfl
theorem Tk.c2 {w : World} {g : Nat} {a b c : Value} (h : Tk w g a b c) : w.cell? ⟨g, 2, none⟩ = some c := blk_cell h rfl
theorem Tk.fr {w : World} {g : Nat} {a b c : Value} (h : Tk w g a b c) (j : Nat) : w.frozen? ⟨g, j, none⟩ = false := frozen_of_row w g j _ _ h
theorem Tk.keep {w w' : World} {g B sb : Nat} {a b c : Value} (h : Tk w g a b c) (hK : Kp B sb w w') (hne : g ≠ sb) : Tk w' g a b c := hK.heap h hne (.inr (by simp))
theorem Tk.alloc {w : World} {g : Nat} {a b c : Value} (h : Tk w g a b c) (o : Obj) : Tk (w.alloc o) g a b c := by unfold Tk; rw [Below.heap_alloc _ _ _ (lt_of_block h)]; exact h
theorem Tk.drew {w : World} {g : Nat} {a b c : Value} (h : Tk w g a b c) : Tk w.drew g a b c := h
theorem tk_new (w : World) (a b c : Value) : Tk (w.alloc (.cells #[a, b, c] 37)) w.heap.size a b c := heap_alloc_new w _
theorem Tk.setOther {w : World} {g : Nat} {a b c : Value} (h : Tk w g a b c) {p : Addr} (hne : g ≠ p.block) (u : Value) : Tk (w.setCell p u) g a b c := by unfold Tk; rw [Below.heap_setCell _ _ _ _ hne]; exact h
theorem row_ne_tk {w : World} {B m g : Nat} {v : Value} {xs : List Value} {a b c : Value} (h : w.ownsRow B 5 1 v m xs) (ht : Tk w g a b c) : v.ownBlock ≠ some g := by
  intro e
  rcases h.2 with ⟨rfl, _⟩ | ⟨g', cap, cur, rfl, hb, hh, _⟩
  · simp [Value.ownBlock] at e
  · simp [Value.ownBlock] at e
    subst e
    unfold Tk at ht
    rw [hh] at ht
    simp at ht

section
variable {w : World} {sb B : Nat} {ex : Int} {v : Value} {af : Int} {bs : List Bool}
set_option maxHeartbeats 1000000 in
theorem begin_any (tg tl p : Nat) (k nx a2 : Int) (h : Sc w sb B (.slice (some ⟨tg, 0, none⟩) tl tl) p ex v bs af) (hp : p < tl) (htl : tl ≤ 1048576) (hb : bs.length < 1048576) :
    Calls Try.prog 30 #[.pointer (some ⟨sb, 0, none⟩), .int .u8 k, .int .u8 nx, .int .u8 a2] w fun e w' => e = .returned (.agg #[.int .u8 k, .int .i64 p, .slice (some ⟨tg, p, none⟩) 1 (tl - p)]) ∧
      ∃ v', Sc w' sb B (.slice (some ⟨tg, 0, none⟩) tl tl) ((p : Int) + 1) nx v' (bs ++ [k == 3]) a2 ∧ Kp B sb w w' := by
  have p1 : (p : Int) < tl := by omega
  have p2 : (p : Int) + 1 ≤ tl := by omega
  have c0 := h.cell0
  have c1 := h.cell1
  have hsb := lt_of_block h.blk
  have H : Hid _ := h
  clear h
  go_enter Try.func30, Try.ntmps30
  go_wp2
  go_region
  go_wp2_with fail
  refine (list_append ((H.out.alloc _).alloc _).drew (k == 3) hb).mono ?_
  rintro e w1 ⟨rfl, v', hS, hK⟩
  have hn0 : w.heap.size ≠ sb := by omega
  have hn1 : w.heap.size + 1 ≠ sb := by omega
  have t0 : Tk w1 w.heap.size (.int .u8 0) (.int .i64 0) (.slice none 0 0) := ((tk_new w _ _ _).alloc _).drew.keep hK hn0
  have t1 : Tk w1 (w.heap.size + 1) (.int .u8 k) (.int .i64 p) (.slice (some ⟨tg, p, none⟩) 1 (tl - p)) := by
    have := tk_new (w.alloc (.cells #[.int .u8 0, .int .i64 0, .slice none 0 0] 37)) (.int .u8 k) (.int .i64 p) (.slice (some ⟨tg, p, none⟩) 1 (tl - p))
    rw [World.size_alloc] at this
    exact Tk.keep (Tk.drew this) hK hn1
  have hKK : Hid (Kp B sb w w1) := ((((Kp.refl B sb w).alloc _).alloc _).drew).trans hK
  clear hK
  have d1 := hS.cell1
  have d5 := hS.cell5
  have d2 := hS.cell2
  have g5 := hS.frozen 5
  have g1 := hS.frozen 1
  have g2 := hS.frozen 2
  have e00 := t0.c0
  have e01 := t0.c1
  have e02 := t0.c2
  have e0f := t0.fr
  have e10 := t1.c0
  have e11 := t1.c1
  have e12 := t1.c2
  have hlt := lt_of_block t0
  have hov : v'.ownBlock ≠ some w.heap.size := row_ne_tk hS.row t0
  have HS : Hid _ := (((((((hS.set5 a2).set1 ((p : Int) + 1)).set2 nx).setNew hn0 hov 0 (.int .u8 k)).setNew hn0 hov 1 (.int .i64 p)).setNew hn0 hov 2 (.slice (some ⟨tg, p, none⟩) 1 (tl - p))))
  clear hov
  clear hS t0 t1 c0 c1 H
  go_wp2
  exact bodyPost_ret (v := .agg #[.int .u8 k, .int .i64 p, .slice (some ⟨tg, p, none⟩) 1 (tl - p)]) (by simp [results, Try.results30, go_sem, e00, e01, e02]) rfl ⟨rfl, v', HS.out, (((((hKK.out.setSb 5 _).setSb 1 _).setSb 2 _).setNew (Nat.le_refl _) 0 _).setNew (Nat.le_refl _) 1 _).setNew (Nat.le_refl _) 2 _⟩

set_option maxHeartbeats 1000000 in
theorem zzBegin_any (tg tl p : Nat) (k nx a2 : Int) (h : Sc w sb B (.slice (some ⟨tg, 0, none⟩) tl tl) p ex v bs af) (hp : p < tl) (htl : tl ≤ 1048576) (hb : bs.length < 1048576) :
    Calls Try.prog 16 #[.pointer (some ⟨sb, 0, none⟩), .int .u8 k, .int .u8 nx, .int .u8 a2] w fun e w' => e = .returned (.agg #[.int .u8 k, .int .i64 p, .slice (some ⟨tg, p, none⟩) 1 (tl - p)]) ∧
      ∃ v', Sc w' sb B (.slice (some ⟨tg, 0, none⟩) tl tl) ((p : Int) + 1) nx v' (bs ++ [k == 3]) a2 ∧ Kp B sb w w' := by
  have hsb := lt_of_block h.blk
  have hn0 : w.heap.size ≠ sb := by omega
  have H : Hid _ := h
  clear h
  go_enter Try.func16, Try.ntmps16
  go_wp2_with fail
  refine (begin_any tg tl p k nx a2 (H.out.alloc _) hp htl hb).mono ?_
  rintro e w1 ⟨rfl, v', hS, hK⟩
  have t0 : Tk w1 w.heap.size (.int .u8 0) (.int .i64 0) (.slice none 0 0) := (tk_new w _ _ _).keep hK hn0
  have hKK : Hid (Kp B sb w w1) := ((Kp.refl B sb w).alloc _).trans hK
  clear hK
  have e00 := t0.c0
  have e01 := t0.c1
  have e02 := t0.c2
  have e0f := t0.fr
  have hlt := lt_of_block t0
  have hov : v'.ownBlock ≠ some w.heap.size := row_ne_tk hS.row t0
  have HS : Hid _ := (((hS.setNew hn0 hov 0 (.int .u8 k)).setNew hn0 hov 1 (.int .i64 p)).setNew hn0 hov 2 (.slice (some ⟨tg, p, none⟩) 1 (tl - p)))
  clear hS t0 H hov
  go_wp2
  exact bodyPost_ret (v := .agg #[.int .u8 k, .int .i64 p, .slice (some ⟨tg, p, none⟩) 1 (tl - p)]) (by simp [results, Try.results16, go_sem, e00, e01, e02]) rfl ⟨rfl, v', HS.out, ((hKK.out.setNew (Nat.le_refl _) 0 _).setNew (Nat.le_refl _) 1 _).setNew (Nat.le_refl _) 2 _⟩
end
end Go.Proofs.Qxb6602231a
