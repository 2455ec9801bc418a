import Derived.Test.Qxb6601218aMatch
namespace Go.Proofs.Qxb6601218a
open Go.RowKit

theorem Half.downSame {A : List Bool} {N i : Nat} {P Q : Nat → Prop} (h : Half A N (i + 1) P Q) (hy : A.getD i false = true ↔ P i) : Half A N i P Q := by
  intro j hj
  refine ⟨fun h1 => (h j hj).1 (by omega), fun h1 => ?_⟩
  by_cases e : i = j
  · subst e; exact hy
  · exact (h j hj).2 (by omega)

theorem last_row (n : Nat) (f : Nat → Nat) : ∀ j, j ≤ n → (((List.replicate (n + 1) false).set n true).getD j false = true ↔ Rs f [] j n) := by
  intro j hj
  rw [getD_set _ _ _ _ (by simp)]
  by_cases e : n = j
  · rw [if_pos e]; exact ⟨fun _ => e.symm, fun _ => rfl⟩
  · rw [if_neg e]
    constructor
    · intro h
      rw [List.getD_eq_getElem?_getD, List.getElem?_replicate, if_pos (by omega)] at h
      cases h
    · intro h; exact absurd h.symm e

theorem drop_byte (p : ByteArray) (m : Nat) (h : m < p.size) : p.data.toList.drop m = (p[m]'h) :: p.data.toList.drop (m + 1) := by
  rw [List.drop_eq_getElem_cons (by simpa using h)]; rfl
theorem drop_stars (p : ByteArray) (m : Nat) (hm : m < p.size) (q : Nat) (hq : q ≤ m + 1) (h : ∀ t (ht : t < p.size), q ≤ t → t < m + 1 → p[t]'ht = 42) : p.data.toList.drop q = List.replicate (m + 1 - q) 42 ++ p.data.toList.drop (m + 1) := by
  obtain ⟨r, hr⟩ : ∃ r, r = m + 1 - q := ⟨_, rfl⟩
  induction r generalizing q with
  | zero =>
    obtain rfl : q = m + 1 := by omega
    simp
  | succ r ih =>
    rw [drop_byte p q (by omega), h q (by omega) (Nat.le_refl _) (by omega), ih (q + 1) (by omega) (fun t ht h1 h2 => h t ht (by omega) h2) (by omega)]
    rw [show m + 1 - q = (m + 1 - (q + 1)) + 1 by omega, List.replicate_succ]
    rfl
theorem byte_ne (c : UInt8) (h : c ≠ 42) : ((c.toNat : Int) != 42) = true := by
  rw [bne_iff_ne]
  intro e
  exact h (UInt8.toNat_inj.1 (by show c.toNat = 42; omega))

set_option maxRecDepth 100000 in
set_option maxHeartbeats 4000000 in
theorem model_any (p s : ByteArray) (w : World) (hp : p.size ≤ 4096) (hs : s.size ≤ 4096) (f : Nat → Nat) (hf : ∀ k (h : k < s.size), (s[k]'h).toNat = f k) :
    Calls Try.prog 11 #[.string p, .string s] w fun e w' => ∃ b, e = .returned (.bool b) ∧ (b = true ↔ Rs f (toks p.data.toList) 0 s.size) ∧ Below w.heap.size w w' := by
  have HF := hid hf
  clear hf
  obtain ⟨i0, hi, hz0, hz1, hz2⟩ := info_parts info4
  go_enter Try.func11, Try.ntmps11
  go_wp2_with (at_make; refine wpList_make_full _ rfl _ _ 27 rfl w.heap.size 4 i0 (.bool false) 1 Try.underlying27 hi hz0 hz1 _ _ _ _ (s.size + 1) rfl rfl (by omega) (by omega) ?_ ?_ ?_ ?_)
  · rw [hz2]; omega
  · unfold maxLen; omega
  · omega
  intro w1 hown hgrow
  have hb1 : Below w.heap.size w w1 := (Below.refl _ _).grown hgrow (Nat.le_refl _) (by simp)
  rw [toList_madeCells_one] at hown
  have hA1 : Bw w1 w.heap.size w.heap.size (s.size + 1) (List.replicate (s.size + 1) false) := by
    unfold Bw; simpa using hown
  have c0 := hA1.cell s.size (by omega)
  have f0 := hA1.fr s.size
  have HA2 := hid (hA1.set s.size true)
  have HB2 := hid (Below.setCell hb1 (p := ⟨w.heap.size, s.size, none⟩) (Nat.le_refl _) (.bool true))
  clear hown hgrow hi hz0 hz1 hz2 hA1 hb1
  have hs1 : (s.size : Int) < (s.size : Int) + 1 := by omega
  have hs2 : (0 : Int) < (s.size : Int) + 1 := by omega
  go_wp2
  clear c0 f0
  go_loopg [7] p.size (fun gk j wr => ∃ A : List Bool, j = .int .i64 gk ∧ gk ≤ p.size ∧ Hid (∀ m (hm : m < p.size), gk = m + 1 → p[m]'hm = 42 → ∀ d r', p.data.toList.drop gk = d :: r' → d ≠ 42) ∧ Bw wr w.heap.size w.heap.size (s.size + 1) A ∧ (∀ i, i ≤ s.size → (A.getD i false = true ↔ Rs f (toks (p.data.toList.drop gk)) i s.size)) ∧ Below w.heap.size w wr)
  case atStart =>
    have e : p.data.toList.drop p.size = [] := List.drop_of_length_le (by rw [← sz]; exact Nat.le_refl _)
    exact ⟨_, rfl, Nat.le_refl _, (by intro m hm h1 h2 d r' h3; rw [e] at h3; cases h3), HA2.out, (by rw [e]; exact last_row s.size f), HB2.out⟩
  case round =>
    obtain ⟨A, rfl, hg, HN, hA, hP, hB⟩ := hrel
    clear HA2 HB2
    have HA := hid hA
    have HP := hid hP
    have HB := hid hB
    by_cases hg0 : gk = 0
    · subst hg0
      have cN := hA.cell 0 (by omega)
      have HE := hid (show (A.getD 0 false = true ↔ Rs f (toks p.data.toList) 0 s.size) from hP 0 (Nat.zero_le _))
      obtain ⟨y, hy⟩ : ∃ y, A.getD 0 false = y := ⟨_, rfl⟩
      rw [hy] at cN HE
      clear hA hP hB hy HN
      go_wp2
      go_ret
      exact ⟨y, rfl, HE.out, HB.out⟩
    obtain ⟨m, rfl⟩ : ∃ m, gk = m + 1 := ⟨gk - 1, by omega⟩
    have hm : m < p.size := by omega
    have hmI : (m : Int) < p.size := by omega
    have hdr := drop_byte p m hm
    by_cases hc : p[m]'hm = 42
    · -- a run of stars
      have h1 : (((p[m]'hm).toNat : Int) != 42) = false := by rw [hc]; rfl
      have HNS := hid (HN.out m hm rfl hc)
      have HC := hid hc
      clear hA hP hB hdr hc HN
      go_wp2
      go_loop [10] (fun kk => ∃ q : Nat, q ≤ m + 1 ∧ kk = .int .i64 q ∧ Hid (∀ t (ht : t < p.size), q ≤ t → t < m + 1 → p[t]'ht = 42)) (fun kk => (intOf kk).toNat)
      case atStart => exact ⟨m + 1, Nat.le_refl _, by go_num, fun t ht h2 h3 => by omega⟩
      case round =>
        obtain ⟨q, hq, rfl, HQ⟩ := hrel
        by_cases hq2 : ∃ t, ∃ ht : t < p.size, q = t + 1 ∧ p[t]'ht = 42
        · -- one star more
          obtain ⟨t, ht, rfl, hpt⟩ := hq2
          have h2 : (((p[t]'ht).toNat : Int) == 42) = true := by rw [hpt]; rfl
          have h3 : (0 : Int) < (t : Int) + 1 := by omega
          have h4 : (t : Int) < p.size := by omega
          have HPT := hid hpt
          clear hpt
          go_wp2
          go_round
          case rel => exact ⟨t, by omega, by go_num, fun x hx h5 h6 => by
            rcases (show x = t ∨ t + 1 ≤ x by omega) with h | h
            · subst h; exact HPT.out
            · exact HQ.out x hx h h6⟩
          case measure => simp [intOf]
        · -- the run's head
          have hqm : q < m + 1 := by
            rcases Nat.lt_or_ge q (m + 1) with h | h
            · exact h
            · exact absurd ⟨m, hm, by omega, HC.out⟩ hq2
          have HR1 := hid (show 1 ≤ m + 1 - q by omega)
          have HDS := hid (drop_stars p m hm q hq HQ.out)
          have HNX := hid (show ∀ t (ht : t < p.size), q = t + 1 → p[t]'ht = 42 → ∀ d r', p.data.toList.drop q = d :: r' → d ≠ 42 from fun t ht e1 e2 => absurd ⟨t, ht, e1, e2⟩ hq2)
          have HH := hid (show Half A s.size s.size (fun j => Rs f (toks (List.replicate (m + 1 - q) 42 ++ p.data.toList.drop (m + 1))) j s.size) (fun j => Rs f (toks (p.data.toList.drop (m + 1))) j s.size) from fun j hj => ⟨fun _ => HP.out j hj, fun h6 => by
            obtain rfl : j = s.size := by omega
            show A.getD s.size false = true ↔ Rs f (toks (List.replicate (m + 1 - q) 42 ++ p.data.toList.drop (m + 1))) s.size s.size
            rw [stars_last f _ HNS.out _ _ HR1.out]; exact HP.out s.size hj⟩)
          obtain ⟨cr, hcr⟩ : ∃ cr : Bool, cr = decide ((2 : Int) ≤ (m : Int) + 1 - (q : Int)) := ⟨_, rfl⟩
          have HCR := hid (show cr = true ↔ 2 ≤ m + 1 - q by rw [hcr, decide_eq_true_iff]; omega)
          have hcr' := hcr.symm
          clear hcr
          have hend : ((0 < q : Prop) → ∃ t, ∃ ht : t < p.size, q = t + 1 ∧ (((p[t]'ht).toNat : Int) == 42) = false) := fun h0 => ⟨q - 1, by omega, by omega, by
            apply byte_int
            intro e
            exact hq2 ⟨q - 1, by omega, by omega, e⟩⟩
          have HEND := hid hend
          clear hend hq2 HC HP
          by_cases hq0 : 0 < q
          · obtain ⟨t, ht, hqt, h2⟩ := HEND.out hq0
            have h3 : (0 : Int) < (q : Int) := by omega
            have h4 : (q : Int) - 1 = (t : Int) := by omega
            have h5 : (t : Int) < p.size := by omega
            clear hq0 hqt HEND
            go_wp2
            go_loopw [12] (fun i wr => ∃ (t : Nat) (A : List Bool), t ≤ s.size ∧ i = .int .i64 ((t : Int) - 1) ∧ Bw wr w.heap.size w.heap.size (s.size + 1) A ∧ Half A s.size t (fun j => Rs f (toks (List.replicate (m + 1 - q) 42 ++ p.data.toList.drop (m + 1))) j s.size) (fun j => Rs f (toks (p.data.toList.drop (m + 1))) j s.size) ∧ Below w.heap.size w wr) (fun i _ => (intOf i + 1).toNat)
            case atStart => exact ⟨s.size, A, Nat.le_refl _, rfl, HA.out, HH.out, HB.out⟩
            case round =>
              obtain ⟨t, A, ht2, rfl, hA, hH, hB⟩ := hrel
              clear HA HB HH
              have HA := hid hA
              have HH := hid hH
              have HB := hid hB
              by_cases hlt : 0 < t
              · obtain ⟨u, rfl⟩ : ∃ u, t = u + 1 := ⟨t - 1, by omega⟩
                have hu : u < s.size := by omega
                have hu3 : (u : Int) < s.size := by omega
                have hu4 : (u : Int) + 1 < (s.size : Int) + 1 := by omega
                have hu5 : (u : Int) < (s.size : Int) + 1 := by omega
                have ca := hA.cell u (by omega)
                have cb := hA.cell (u + 1) (by omega)
                have fa := hA.fr u
                have Pa := hid ((hH u (by omega)).1 (by omega))
                have Qb := hid ((hH (u + 1) (by omega)).2 (Nat.le_refl _))
                have hfm := HF.out u hu
                clear hA hH hB ht2 hlt
                cases ha : A.getD u false with
                | true =>
                  rw [ha] at ca Pa
                  clear hfm
                  have H2 := hid (HH.out.downSame (by show A.getD u false = true ↔ Rs f (toks (List.replicate (m + 1 - q) 42 ++ p.data.toList.drop (m + 1))) u s.size; rw [stars_step f _ HNS.out _ _ _ HR1.out, ha]; exact ⟨fun _ => .inl (Pa.out.1 rfl), fun _ => rfl⟩))
                  clear HH Pa Qb ha
                  go_wp2
                  go_roundw
                  case rel => exact ⟨u, A, by omega, by go_num, HA.out, H2.out, HB.out⟩
                  case measure => simp [intOf]
                | false =>
                  rw [ha] at ca Pa
                  cases hb : A.getD (u + 1) false with
                  | true =>
                    rw [hb] at cb Qb
                    cases hcc : cr with
                    | true =>
                      rw [hcc] at hcr' HCR
                      clear hfm
                      have H1 := hid (HA.out.set u true)
                      have H2 := hid (HH.out.down (y := true) HA.out.len (by omega) (by show true = true ↔ Rs f (toks (List.replicate (m + 1 - q) 42 ++ p.data.toList.drop (m + 1))) u s.size; rw [stars_step f _ HNS.out _ _ _ HR1.out]; exact ⟨fun _ => .inr ⟨.inl (HCR.out.1 rfl), Qb.out.1 rfl⟩, fun _ => rfl⟩))
                      have H3 := hid (Below.setCell HB.out (p := ⟨w.heap.size, u, none⟩) (Nat.le_refl _) (.bool true))
                      clear HA HH HB Pa Qb ha
                      go_wp2
                      go_roundw
                      case rel => exact ⟨u, _, by omega, by go_num, H1.out, H2.out, H3.out⟩
                      case measure => simp [intOf]
                    | false =>
                      rw [hcc] at hcr' HCR
                      by_cases hsl : f u = 47
                      · have hne : (((s[u]'hu).toNat : Int) != 47) = false := by rw [hfm, hsl]; rfl
                        clear hfm
                        have H2 := hid (HH.out.downSame (by show A.getD u false = true ↔ Rs f (toks (List.replicate (m + 1 - q) 42 ++ p.data.toList.drop (m + 1))) u s.size; rw [stars_step f _ HNS.out _ _ _ HR1.out, ha]; exact ⟨(fun h => by cases h), fun h => Or.elim h Pa.out.2 (fun h2 => Or.elim h2.1 HCR.out.2 (fun h3 => absurd hsl h3))⟩))
                        clear HH Pa Qb ha
                        go_wp2
                        go_roundw
                        case rel => exact ⟨u, A, by omega, by go_num, HA.out, H2.out, HB.out⟩
                        case measure => simp [intOf]
                      · have hne : (((s[u]'hu).toNat : Int) != 47) = true := by rw [hfm, bne_iff_ne]; omega
                        clear hfm
                        have H1 := hid (HA.out.set u true)
                        have H2 := hid (HH.out.down (y := true) HA.out.len (by omega) (by show true = true ↔ Rs f (toks (List.replicate (m + 1 - q) 42 ++ p.data.toList.drop (m + 1))) u s.size; rw [stars_step f _ HNS.out _ _ _ HR1.out]; exact ⟨fun _ => .inr ⟨.inr hsl, Qb.out.1 rfl⟩, fun _ => rfl⟩))
                        have H3 := hid (Below.setCell HB.out (p := ⟨w.heap.size, u, none⟩) (Nat.le_refl _) (.bool true))
                        clear HA HH HB Pa Qb ha
                        go_wp2
                        go_roundw
                        case rel => exact ⟨u, _, by omega, by go_num, H1.out, H2.out, H3.out⟩
                        case measure => simp [intOf]
                  | false =>
                    rw [hb] at cb Qb
                    cases hcc : cr with
                    | true =>
                      rw [hcc] at hcr' HCR
                      clear hfm
                      have H2 := hid (HH.out.downSame (by show A.getD u false = true ↔ Rs f (toks (List.replicate (m + 1 - q) 42 ++ p.data.toList.drop (m + 1))) u s.size; rw [stars_step f _ HNS.out _ _ _ HR1.out, ha]; exact ⟨(fun h => by cases h), fun h => Or.elim h Pa.out.2 (fun h2 => Qb.out.2 h2.2)⟩))
                      clear HH Pa Qb ha
                      go_wp2
                      go_roundw
                      case rel => exact ⟨u, A, by omega, by go_num, HA.out, H2.out, HB.out⟩
                      case measure => simp [intOf]
                    | false =>
                      rw [hcc] at hcr' HCR
                      by_cases hsl : f u = 47
                      · have hne : (((s[u]'hu).toNat : Int) != 47) = false := by rw [hfm, hsl]; rfl
                        clear hfm
                        have H2 := hid (HH.out.downSame (by show A.getD u false = true ↔ Rs f (toks (List.replicate (m + 1 - q) 42 ++ p.data.toList.drop (m + 1))) u s.size; rw [stars_step f _ HNS.out _ _ _ HR1.out, ha]; exact ⟨(fun h => by cases h), fun h => Or.elim h Pa.out.2 (fun h2 => Qb.out.2 h2.2)⟩))
                        clear HH Pa Qb ha
                        go_wp2
                        go_roundw
                        case rel => exact ⟨u, A, by omega, by go_num, HA.out, H2.out, HB.out⟩
                        case measure => simp [intOf]
                      · have hne : (((s[u]'hu).toNat : Int) != 47) = true := by rw [hfm, bne_iff_ne]; omega
                        clear hfm
                        have H2 := hid (HH.out.downSame (by show A.getD u false = true ↔ Rs f (toks (List.replicate (m + 1 - q) 42 ++ p.data.toList.drop (m + 1))) u s.size; rw [stars_step f _ HNS.out _ _ _ HR1.out, ha]; exact ⟨(fun h => by cases h), fun h => Or.elim h Pa.out.2 (fun h2 => Qb.out.2 h2.2)⟩))
                        clear HH Pa Qb ha
                        go_wp2
                        go_roundw
                        case rel => exact ⟨u, A, by omega, by go_num, HA.out, H2.out, HB.out⟩
                        case measure => simp [intOf]
              · obtain rfl : t = 0 := by omega
                have HQ2 := hid (show ∀ j, j ≤ s.size → (A.getD j false = true ↔ Rs f (toks (p.data.toList.drop q)) j s.size) from fun j hj => by rw [HDS.out]; exact (hH j hj).2 (Nat.zero_le _))
                clear hA hH hB HH
                go_wp2
                go_roundg q
                case measure => omega
                case rel => exact ⟨A, rfl, by omega, HNX.out, HA.out, HQ2.out, HB.out⟩
          · have h3 : ¬ (0 : Int) < (q : Int) := by omega
            clear HEND
            go_wp2
            go_loopw [12] (fun i wr => ∃ (t : Nat) (A : List Bool), t ≤ s.size ∧ i = .int .i64 ((t : Int) - 1) ∧ Bw wr w.heap.size w.heap.size (s.size + 1) A ∧ Half A s.size t (fun j => Rs f (toks (List.replicate (m + 1 - q) 42 ++ p.data.toList.drop (m + 1))) j s.size) (fun j => Rs f (toks (p.data.toList.drop (m + 1))) j s.size) ∧ Below w.heap.size w wr) (fun i _ => (intOf i + 1).toNat)
            case atStart => exact ⟨s.size, A, Nat.le_refl _, rfl, HA.out, HH.out, HB.out⟩
            case round =>
              obtain ⟨t, A, ht2, rfl, hA, hH, hB⟩ := hrel
              clear HA HB HH
              have HA := hid hA
              have HH := hid hH
              have HB := hid hB
              by_cases hlt : 0 < t
              · obtain ⟨u, rfl⟩ : ∃ u, t = u + 1 := ⟨t - 1, by omega⟩
                have hu : u < s.size := by omega
                have hu3 : (u : Int) < s.size := by omega
                have hu4 : (u : Int) + 1 < (s.size : Int) + 1 := by omega
                have hu5 : (u : Int) < (s.size : Int) + 1 := by omega
                have ca := hA.cell u (by omega)
                have cb := hA.cell (u + 1) (by omega)
                have fa := hA.fr u
                have Pa := hid ((hH u (by omega)).1 (by omega))
                have Qb := hid ((hH (u + 1) (by omega)).2 (Nat.le_refl _))
                have hfm := HF.out u hu
                clear hA hH hB ht2 hlt
                cases ha : A.getD u false with
                | true =>
                  rw [ha] at ca Pa
                  clear hfm
                  have H2 := hid (HH.out.downSame (by show A.getD u false = true ↔ Rs f (toks (List.replicate (m + 1 - q) 42 ++ p.data.toList.drop (m + 1))) u s.size; rw [stars_step f _ HNS.out _ _ _ HR1.out, ha]; exact ⟨fun _ => .inl (Pa.out.1 rfl), fun _ => rfl⟩))
                  clear HH Pa Qb ha
                  go_wp2
                  go_roundw
                  case rel => exact ⟨u, A, by omega, by go_num, HA.out, H2.out, HB.out⟩
                  case measure => simp [intOf]
                | false =>
                  rw [ha] at ca Pa
                  cases hb : A.getD (u + 1) false with
                  | true =>
                    rw [hb] at cb Qb
                    cases hcc : cr with
                    | true =>
                      rw [hcc] at hcr' HCR
                      clear hfm
                      have H1 := hid (HA.out.set u true)
                      have H2 := hid (HH.out.down (y := true) HA.out.len (by omega) (by show true = true ↔ Rs f (toks (List.replicate (m + 1 - q) 42 ++ p.data.toList.drop (m + 1))) u s.size; rw [stars_step f _ HNS.out _ _ _ HR1.out]; exact ⟨fun _ => .inr ⟨.inl (HCR.out.1 rfl), Qb.out.1 rfl⟩, fun _ => rfl⟩))
                      have H3 := hid (Below.setCell HB.out (p := ⟨w.heap.size, u, none⟩) (Nat.le_refl _) (.bool true))
                      clear HA HH HB Pa Qb ha
                      go_wp2
                      go_roundw
                      case rel => exact ⟨u, _, by omega, by go_num, H1.out, H2.out, H3.out⟩
                      case measure => simp [intOf]
                    | false =>
                      rw [hcc] at hcr' HCR
                      by_cases hsl : f u = 47
                      · have hne : (((s[u]'hu).toNat : Int) != 47) = false := by rw [hfm, hsl]; rfl
                        clear hfm
                        have H2 := hid (HH.out.downSame (by show A.getD u false = true ↔ Rs f (toks (List.replicate (m + 1 - q) 42 ++ p.data.toList.drop (m + 1))) u s.size; rw [stars_step f _ HNS.out _ _ _ HR1.out, ha]; exact ⟨(fun h => by cases h), fun h => Or.elim h Pa.out.2 (fun h2 => Or.elim h2.1 HCR.out.2 (fun h3 => absurd hsl h3))⟩))
                        clear HH Pa Qb ha
                        go_wp2
                        go_roundw
                        case rel => exact ⟨u, A, by omega, by go_num, HA.out, H2.out, HB.out⟩
                        case measure => simp [intOf]
                      · have hne : (((s[u]'hu).toNat : Int) != 47) = true := by rw [hfm, bne_iff_ne]; omega
                        clear hfm
                        have H1 := hid (HA.out.set u true)
                        have H2 := hid (HH.out.down (y := true) HA.out.len (by omega) (by show true = true ↔ Rs f (toks (List.replicate (m + 1 - q) 42 ++ p.data.toList.drop (m + 1))) u s.size; rw [stars_step f _ HNS.out _ _ _ HR1.out]; exact ⟨fun _ => .inr ⟨.inr hsl, Qb.out.1 rfl⟩, fun _ => rfl⟩))
                        have H3 := hid (Below.setCell HB.out (p := ⟨w.heap.size, u, none⟩) (Nat.le_refl _) (.bool true))
                        clear HA HH HB Pa Qb ha
                        go_wp2
                        go_roundw
                        case rel => exact ⟨u, _, by omega, by go_num, H1.out, H2.out, H3.out⟩
                        case measure => simp [intOf]
                  | false =>
                    rw [hb] at cb Qb
                    cases hcc : cr with
                    | true =>
                      rw [hcc] at hcr' HCR
                      clear hfm
                      have H2 := hid (HH.out.downSame (by show A.getD u false = true ↔ Rs f (toks (List.replicate (m + 1 - q) 42 ++ p.data.toList.drop (m + 1))) u s.size; rw [stars_step f _ HNS.out _ _ _ HR1.out, ha]; exact ⟨(fun h => by cases h), fun h => Or.elim h Pa.out.2 (fun h2 => Qb.out.2 h2.2)⟩))
                      clear HH Pa Qb ha
                      go_wp2
                      go_roundw
                      case rel => exact ⟨u, A, by omega, by go_num, HA.out, H2.out, HB.out⟩
                      case measure => simp [intOf]
                    | false =>
                      rw [hcc] at hcr' HCR
                      by_cases hsl : f u = 47
                      · have hne : (((s[u]'hu).toNat : Int) != 47) = false := by rw [hfm, hsl]; rfl
                        clear hfm
                        have H2 := hid (HH.out.downSame (by show A.getD u false = true ↔ Rs f (toks (List.replicate (m + 1 - q) 42 ++ p.data.toList.drop (m + 1))) u s.size; rw [stars_step f _ HNS.out _ _ _ HR1.out, ha]; exact ⟨(fun h => by cases h), fun h => Or.elim h Pa.out.2 (fun h2 => Qb.out.2 h2.2)⟩))
                        clear HH Pa Qb ha
                        go_wp2
                        go_roundw
                        case rel => exact ⟨u, A, by omega, by go_num, HA.out, H2.out, HB.out⟩
                        case measure => simp [intOf]
                      · have hne : (((s[u]'hu).toNat : Int) != 47) = true := by rw [hfm, bne_iff_ne]; omega
                        clear hfm
                        have H2 := hid (HH.out.downSame (by show A.getD u false = true ↔ Rs f (toks (List.replicate (m + 1 - q) 42 ++ p.data.toList.drop (m + 1))) u s.size; rw [stars_step f _ HNS.out _ _ _ HR1.out, ha]; exact ⟨(fun h => by cases h), fun h => Or.elim h Pa.out.2 (fun h2 => Qb.out.2 h2.2)⟩))
                        clear HH Pa Qb ha
                        go_wp2
                        go_roundw
                        case rel => exact ⟨u, A, by omega, by go_num, HA.out, H2.out, HB.out⟩
                        case measure => simp [intOf]
              · obtain rfl : t = 0 := by omega
                have HQ2 := hid (show ∀ j, j ≤ s.size → (A.getD j false = true ↔ Rs f (toks (p.data.toList.drop q)) j s.size) from fun j hj => by rw [HDS.out]; exact (hH j hj).2 (Nat.zero_le _))
                clear hA hH hB HH
                go_wp2
                go_roundg q
                case measure => omega
                case rel => exact ⟨A, rfl, by omega, HNX.out, HA.out, HQ2.out, HB.out⟩
    · -- another byte
      have h1 : (((p[m]'hm).toNat : Int) != 42) = true := byte_ne _ hc
      have HDR := hid hdr
      have HC := hid hc
      have HH := hid (show Half A s.size 0 (fun j => Rs f (toks (p.data.toList.drop (m + 1))) j s.size) (fun j => Rs f (toks (p.data.toList.drop m)) j s.size) from fun j hj => ⟨fun h => by omega, fun _ => hP j hj⟩)
      clear hA hP hB hdr hc HN
      go_wp2
      go_loopw [9] (fun i wr => ∃ (k : Nat) (A : List Bool), k ≤ s.size ∧ i = .int .i64 k ∧ Bw wr w.heap.size w.heap.size (s.size + 1) A ∧ Half A s.size k (fun j => Rs f (toks (p.data.toList.drop (m + 1))) j s.size) (fun j => Rs f (toks (p.data.toList.drop m)) j s.size) ∧ Below w.heap.size w wr) (fun i _ => s.size - (intOf i).toNat)
      case atStart => exact ⟨0, A, Nat.zero_le _, rfl, HA.out, HH.out, HB.out⟩
      case round =>
        obtain ⟨k, A, hk2, rfl, hA, hH, hB⟩ := hrel
        clear HA HP HB HH
        have HA := hid hA
        have HH := hid hH
        have HB := hid hB
        by_cases hlt : k < s.size
        · have hk3 : (k : Int) < s.size := by omega
          have hk4 : (k : Int) + 1 < (s.size : Int) + 1 := by omega
          have hk5 : (k : Int) < (s.size : Int) + 1 := by omega
          have ca := hA.cell k (by omega)
          have cb := hA.cell (k + 1) (by omega)
          have fa := hA.fr k
          have Pb := hid ((hH (k + 1) (by omega)).2 (by omega))
          have hfm := HF.out k hlt
          clear hA hH hB hk2
          by_cases hsl : f k = (p[m]'hm).toNat
          · have hne : (((s[k]'hlt).toNat : Int) == ((p[m]'hm).toNat : Int)) = true := by rw [hfm, hsl, beq_iff_eq]
            clear hfm
            cases hb : A.getD (k + 1) false with
            | true =>
              rw [hb] at cb Pb
              have H1 := hid (HA.out.set k true)
              have H2 := hid (HH.out.up (y := true) HA.out.len (by omega) (by show true = true ↔ Rs f (toks (p.data.toList.drop m)) k s.size; rw [HDR.out, byte_front f _ _ HC.out]; exact ⟨fun _ => ⟨hsl, Pb.out.1 rfl⟩, fun _ => rfl⟩))
              have H3 := hid (Below.setCell HB.out (p := ⟨w.heap.size, k, none⟩) (Nat.le_refl _) (.bool true))
              clear HA HH HB Pb
              go_wp2
              go_roundw
              case rel => exact ⟨k + 1, _, by omega, by go_num, H1.out, H2.out, H3.out⟩
              case measure => simp [intOf]; omega
            | false =>
              rw [hb] at cb Pb
              have H1 := hid (HA.out.set k false)
              have H2 := hid (HH.out.up (y := false) HA.out.len (by omega) (by show false = true ↔ Rs f (toks (p.data.toList.drop m)) k s.size; rw [HDR.out, byte_front f _ _ HC.out]; exact ⟨(fun h => by cases h), fun h => Pb.out.2 h.2⟩))
              have H3 := hid (Below.setCell HB.out (p := ⟨w.heap.size, k, none⟩) (Nat.le_refl _) (.bool false))
              clear HA HH HB Pb
              go_wp2
              go_roundw
              case rel => exact ⟨k + 1, _, by omega, by go_num, H1.out, H2.out, H3.out⟩
              case measure => simp [intOf]; omega
          · have hne : (((s[k]'hlt).toNat : Int) == ((p[m]'hm).toNat : Int)) = false := by rw [hfm, beq_eq_false_iff_ne]; omega
            clear hfm
            have H1 := hid (HA.out.set k false)
            have H2 := hid (HH.out.up (y := false) HA.out.len (by omega) (by show false = true ↔ Rs f (toks (p.data.toList.drop m)) k s.size; rw [HDR.out, byte_front f _ _ HC.out]; exact ⟨(fun h => by cases h), fun h => absurd h.1 hsl⟩))
            have H3 := hid (Below.setCell HB.out (p := ⟨w.heap.size, k, none⟩) (Nat.le_refl _) (.bool false))
            clear HA HH HB Pb
            go_wp2
            go_roundw
            case rel => exact ⟨k + 1, _, by omega, by go_num, H1.out, H2.out, H3.out⟩
            case measure => simp [intOf]; omega
        · obtain rfl : k = s.size := by omega
          have cN := hA.cell s.size (by omega)
          have fN := hA.fr s.size
          have H1 := hid (hA.set s.size false)
          have HH0 := HH.out.up (y := false) hA.len (Nat.le_refl _) (by show false = true ↔ Rs f (toks (p.data.toList.drop m)) s.size s.size; rw [HDR.out]; exact ⟨(fun h => by cases h), fun h => absurd h (byte_last f _ _ HC.out _)⟩)
          have HQ := hid (show ∀ j, j ≤ s.size → ((A.set s.size false).getD j false = true ↔ Rs f (toks (p.data.toList.drop m)) j s.size) from fun j hj => (HH0 j hj).1 (by omega))
          have H3 := hid (Below.setCell hB (p := ⟨w.heap.size, s.size, none⟩) (Nat.le_refl _) (.bool false))
          clear hA hH hB HH HH0 HA HB
          go_wp2
          go_roundg m
          case measure => omega
          case rel => exact ⟨_, by go_num, by omega, (by intro t ht e1 e2 d r' e3; rw [HDR.out] at e3; cases e3; exact HC.out), H1.out, HQ.out, H3.out⟩
end Go.Proofs.Qxb6601218a
