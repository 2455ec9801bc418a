import Derived.Test.Qxb6601218aRow
import Derived.Lib.Builder
import Derived.Lib.Walk
import Derived.Laws.Externs
import Derived.Maps.AppendAt
namespace Go.Proofs.Qxb6601218a
open Go.RowKit

/-- What an instruction comes to that asks the program and the shape of blocks alone, each of the shape o; and which blocks it asks. -/
def look (P : Program) (o : Option (TypeId × Nat)) : Sem Value → Option (Value × List Nat)
  | .pure a => some (a, [])
  | .shape r k => (look P o (k o)).map fun x => (x.1, r :: x.2)
  | .program k => look P o (k P)
  | .mark _ k => look P o k
  | _ => none

theorem look_run (P : Program) (o : Option (TypeId × Nat)) (w : World) : ∀ (s : Sem Value) (v : Value) (rs : List Nat), look P o s = some (v, rs) → (∀ r ∈ rs, w.shape? r = o) → s.run P w = .ok v w := by
  intro s
  induction s with
  | pure a => intro v rs h _; simp [look] at h; obtain ⟨rfl, _⟩ := h; rfl
  | shape r k ih =>
    intro v rs h hr
    simp only [look, Option.map_eq_some_iff] at h
    obtain ⟨⟨v', rs'⟩, h1, h2⟩ := h
    simp only [Prod.mk.injEq] at h2
    obtain ⟨rfl, rfl⟩ := h2
    show (k (w.shape? r)).run P w = _
    rw [hr r (by simp)]
    exact ih o v' rs' h1 (fun x hx => hr x (by simp [hx]))
  | program k ih => intro v rs h hr; exact ih P v rs h hr
  | mark m k ih => intro v rs h hr; exact ih v rs h hr
  | load => intro v rs h; simp [look] at h
  | store => intro v rs h; simp [look] at h
  | new => intro v rs h; simp [look] at h
  | freeze => intro v rs h; simp [look] at h
  | frozen => intro v rs h; simp [look] at h
  | getObj => intro v rs h; simp [look] at h
  | setObj => intro v rs h; simp [look] at h
  | choose => intro v rs h; simp [look] at h
  | sys => intro v rs h; simp [look] at h
  | halt => intro v rs h; simp [look] at h

theorem conv_out (b : Nat) (w : World) (h : w.shape? b = some (31, 2)) : (convert 29 37 (.pointer (some ⟨b, 0, none⟩))).run Try.prog w = .ok (.pointer (some ⟨b, 0, none⟩)) w := by
  have e : look Try.prog (some (31, 2)) (convert 29 37 (.pointer (some ⟨b, 0, none⟩))) = some (.pointer (some ⟨b, 0, none⟩), [b, b]) := by kernel_rfl
  exact look_run _ _ w _ _ _ e (by intro r hr; simp at hr; subst hr; exact h)
theorem conv_back (b : Nat) (w : World) (h : w.shape? b = some (31, 2)) : (convert 37 29 (.pointer (some ⟨b, 0, none⟩))).run Try.prog w = .ok (.pointer (some ⟨b, 0, none⟩)) w := by
  have e : look Try.prog (some (31, 2)) (convert 37 29 (.pointer (some ⟨b, 0, none⟩))) = some (.pointer (some ⟨b, 0, none⟩), [b, b]) := by kernel_rfl
  exact look_run _ _ w _ _ _ e (by intro r hr; simp at hr; subst hr; exact h)
theorem info31 : ∃ j, Try.prog.info? 31 = some j := by
  have h : (Try.prog.info? 31).isSome = true := by kernel_rfl
  exact Option.isSome_iff_exists.1 h

set_option maxRecDepth 100000 in
set_option maxHeartbeats 1000000 in
/-- copyCheck at a builder that has been used: nothing turns. -/
theorem check_used (b : Nat) (w : World) (h0 : w.cell? ⟨b, 0, none⟩ = some (.pointer (some ⟨b, 0, none⟩))) :
    Calls Try.prog 23 #[.pointer (some ⟨b, 0, none⟩)] w fun e w' => e = .returned (.tuple #[]) ∧ w = w' := by
  obtain ⟨j, hj⟩ := info31
  have hne := fun w : World => Lib.run_neq_ptr_same (P := Try.prog) w (⟨b, 0, none⟩ : Addr) Try.underlying29 hj
  go_enter Try.func23, Try.ntmps23
  go_wp2
  go_end0
  exact ⟨rfl, rfl⟩

set_option maxRecDepth 100000 in
set_option maxHeartbeats 1000000 in
/-- copyCheck at a fresh builder: it stores its own address. -/
theorem check_fresh (b : Nat) (w : World) (h0 : w.cell? ⟨b, 0, none⟩ = some (.pointer none)) (hsh : w.shape? b = some (31, 2)) (hfz : w.frozen? ⟨b, 0, none⟩ = false) :
    Calls Try.prog 23 #[.pointer (some ⟨b, 0, none⟩)] w fun e w' => e = .returned (.tuple #[]) ∧ w' = w.setCell ⟨b, 0, none⟩ (.pointer (some ⟨b, 0, none⟩)) := by
  obtain ⟨j, hj⟩ := info31
  have hne := fun w : World => Lib.run_neq_ptr_same (P := Try.prog) w (⟨b, 0, none⟩ : Addr) Try.underlying29 hj
  have ho := conv_out b w hsh
  have hb := conv_back b w hsh
  go_enter Try.func23, Try.ntmps23
  go_wp2
  rw [run_callFunc_extern Try.func24 (by kernel_rfl) (by kernel_rfl) (by kernel_rfl) (e := Extern.AbiNoEscape.same) (by kernel_rfl)]
  rw [Lib.run_noEscape]
  simp only [Result.andThen]
  rw [Oper.upon_value]
  go_wp2
  go_end0
  exact ⟨rfl, rfl⟩

/-- (*strings.Builder).copyCheck: behind it the builder is 'used'. -/
theorem check_any (B b : Nat) (bs : List Value) (w : World) (h : Lib.IsBuilder 31 5 B b bs w) :
    Calls Try.prog 23 #[.pointer (some ⟨b, 0, none⟩)] w fun e w' => e = .returned (.tuple #[]) ∧ (Lib.BuilderAt 31 5 B b (.pointer (some ⟨b, 0, none⟩)) bs w' ∧ Below B w w' ∧ w.heap.size ≤ w'.heap.size) := by
  rcases h with h | h
  · refine (check_fresh b w h.cell0 h.shape h.frozen0).mono ?_
    rintro e w' ⟨rfl, rfl⟩
    exact ⟨rfl, h.used _, (Below.refl B w).setCell (p := ⟨b, 0, none⟩) h.1 _, by simp [World.setCell]⟩
  · refine (check_used b w h.cell0).mono ?_
    rintro e w' ⟨rfl, rfl⟩
    exact ⟨rfl, h, Below.refl B _, Nat.le_refl _⟩

theorem info5 : (Try.prog.info? 5).map (fun i => (i.zero, i.size, i.bytes)) = some (some (.int .u8 0), 1, 1) := by kernel_rfl

set_option maxRecDepth 100000 in
set_option maxHeartbeats 1000000 in
/-- (*strings.Builder).WriteByte. -/
theorem writeByte_any (B b : Nat) (bs : List Value) (c : Int) (w : World) (h : Lib.IsBuilder 31 5 B b bs w) (hlen : bs.length ≤ 1048576) (hBw : B ≤ w.heap.size) :
    Calls Try.prog 21 #[.pointer (some ⟨b, 0, none⟩), .int .u8 c] w fun e w' => e = .returned .nilIface ∧ (Lib.BuilderAt 31 5 B b (.pointer (some ⟨b, 0, none⟩)) (bs ++ [.int .u8 c]) w' ∧ Below B w w') := by
  have C := check_any B b bs w h
  clear h
  obtain ⟨i0, hi, hz0, hz1, hz2⟩ := info_parts info5
  go_enter Try.func21, Try.ntmps21
  go_wp2_with fail
  refine C.mono ?_
  rintro e w1 ⟨rfl, ⟨hB, v, hbk, hown, hne⟩, hbel, hsz⟩
  clear C
  have c1 : w1.cell? ⟨b, 1, none⟩ = some v := by rw [Lib.cell_of_heap hbk]; rfl
  have hrow := hown.alloc (.cells #[.int .u8 c] 5)
  have HBK := hid hbk
  have HOWN := hid hown
  have HNE := hid hne
  have HBEL := hid hbel
  clear hbk hown hne hbel
  go_wp2_with (at_builtin; refine wpList_append_own _ rfl _ _ 28 rfl B 5 i0 (.int .u8 0) 1 1 Try.underlying28 hi hz0 hz1 hz2 rfl (by decide) _ _ _ rfl hrow ⟨w1.heap.size, 0, none⟩ 1 1 [.int .u8 c] rfl rfl (cell_one_new _ _ _) ?c2 ?c3 ?c4 ?c5 ?_)
  case c2 => intro u hu; simp at hu; subst hu; rfl
  case c3 => unfold maxLen; omega
  case c4 => omega
  case c5 => simp; omega
  intro v' w2 hown' hgrow hnil
  have hbk2 : w2.heap[b]? = some (.cells #[.pointer (some ⟨b, 0, none⟩), v] 31 (0, 0)) := by
    rw [hgrow.block b (by have := lt_of_block HBK.out; simp; omega) (fun e => HNE.out e.symm), Below.heap_alloc _ _ _ (lt_of_block HBK.out)]
    exact HBK.out
  have hbel2 : Below B w w2 := (HBEL.out.alloc (by omega) _).grown hgrow (by simp; omega) (fun k hk => (HOWN.out.lt k hk).1)
  have c2 : w2.cell? ⟨b, 1, none⟩ = some v := by rw [Lib.cell_of_heap hbk2]; rfl
  have f2 := Lib.frozen_of_heap hbk2 1
  obtain ⟨g, cap, hv'⟩ : ∃ g cap, v' = .slice (some ⟨g, 0, none⟩) (bs.length + 1) cap := by
    rcases hown'.2 with ⟨_, h0⟩ | ⟨g, cap, cur, hv, _⟩
    · omega
    · exact ⟨g, cap, hv⟩
  rw [hv'] at hown' ⊢
  have hown2 : w2.ownsRow B 5 1 (.slice (some ⟨g, 0, none⟩) (bs.length + 1) cap) (bs ++ [Value.int .u8 c]).length (bs ++ [Value.int .u8 c]) := by
    rw [List.length_append]; exact hown'
  have R1 := hid (Lib.BuilderAt.put hB hbk2 hown2 (by decide))
  have R2 := hid (hbel2.setCell (p := ⟨b, 1, none⟩) hB (.slice (some ⟨g, 0, none⟩) (bs.length + 1) cap))
  clear hown' hgrow hnil hbk2 hbel2 hown2 hv' hrow c1 hi hz0 hz1 hz2 HBK HOWN HNE HBEL
  go_wp2
  go_ret
  exact ⟨rfl, R1.out, R2.out⟩
end Go.Proofs.Qxb6601218a
