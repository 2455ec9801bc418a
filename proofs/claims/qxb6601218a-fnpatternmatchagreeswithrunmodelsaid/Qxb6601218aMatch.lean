import Derived.Test.Qxb6601218aRest
namespace Go.Proofs.Qxb6601218a
open Go.RowKit

theorem start_row (n : Nat) (f : Nat → Nat) : ∀ j, j ≤ n → (((List.replicate (n + 1) false).set 0 true).getD j false = true ↔ Rs f [] 0 j) := by
  intro j hj
  rw [getD_set _ _ _ _ (by simp)]
  by_cases e : 0 = j
  · rw [if_pos e]; exact ⟨fun _ => e, fun _ => rfl⟩
  · rw [if_neg e]
    constructor
    · intro h
      rw [List.getD_eq_getElem?_getD, List.getElem?_replicate, if_pos (by omega)] at h
      cases h
    · intro h; exact absurd h e

set_option maxRecDepth 100000 in
set_option maxHeartbeats 4000000 in
theorem match_any (p s : ByteArray) (w : World) (hp : p.size ≤ 4096) (hs : s.size ≤ 4096) (f : Nat → Nat) (hf : ∀ k (h : k < s.size), (s[k]'h).toNat = f k) :
    Calls Try.prog 10 #[.string p, .string s] w fun e w' => ∃ b, e = .returned (.bool b) ∧ (b = true ↔ Rs f (toks p.data.toList) 0 s.size) ∧ Below w.heap.size w w' := by
  have HF := hid hf
  clear hf
  obtain ⟨i0, hi, hz0, hz1, hz2⟩ := info_parts info4
  go_enter Try.func10, Try.ntmps10
  go_wp2_with (at_make; refine wpList_make_full _ rfl _ _ 27 rfl w.heap.size 4 i0 (.bool false) 1 Try.underlying27 hi hz0 hz1 _ _ _ _ (s.size + 1) rfl rfl (by omega) (by omega) ?_ ?_ ?_ ?_)
  · rw [hz2]; omega
  · unfold maxLen; omega
  · omega
  intro w1 hown hgrow
  have hb1 : Below w.heap.size w w1 := (Below.refl _ _).grown hgrow (Nat.le_refl _) (by simp)
  rw [toList_madeCells_one] at hown
  have hA1 : Bw w1 w.heap.size w.heap.size (s.size + 1) (List.replicate (s.size + 1) false) := by
    unfold Bw; simpa using hown
  have c0 := hA1.cell 0 (by omega)
  have f0 := hA1.fr 0
  have HA2 := hid (hA1.set 0 true)
  have HB2 := hid (Below.setCell hb1 (p := ⟨w.heap.size, 0, none⟩) (Nat.le_refl _) (.bool true))
  clear hown hgrow hi hz0 hz1 hz2 hA1 hb1
  have hs1 : (0 : Int) < (s.size : Int) + 1 := by omega
  go_wp2
  clear c0 f0
  go_loopg [6] p.size (fun gk r wr => ∃ (r' : ByteArray) (ts : List Nat) (A : List Bool), r = .string r' ∧ r'.size = gk ∧ gk ≤ 4096 ∧ Hid (toks p.data.toList = ts ++ toks r'.data.toList) ∧ Bw wr w.heap.size w.heap.size (s.size + 1) A ∧ (∀ j, j ≤ s.size → (A.getD j false = true ↔ Rs f ts 0 j)) ∧ Below w.heap.size w wr)
  case atStart => exact ⟨p, [], _, rfl, rfl, hp, rfl, HA2.out, start_row s.size f, HB2.out⟩
  case round =>
    obtain ⟨r, ts, A, rfl, hr, hg, HT, hA, hP, hB⟩ := hrel
    clear HA2 HB2
    have HA := hid hA
    have HP := hid hP
    have HB := hid hB
    have HR := hid hr
    have hrs : r.size ≤ 4096 := by omega
    clear hr
    rcases rest_ways r.data.toList with h | ⟨X, h⟩ | ⟨X, h, hX⟩ | ⟨c, X, h, hc⟩
    · -- nothing is left of the pattern
      have h1 := rest_nil r h
      have cN := hA.cell s.size (by omega)
      have HE := hid (show (A.getD s.size false = true ↔ Rs f (toks p.data.toList) 0 s.size) by
        rw [HT.out, h]
        show _ ↔ Rs f (ts ++ []) 0 s.size
        rw [List.append_nil]; exact hP s.size (Nat.le_refl _))
      obtain ⟨y, hy⟩ : ∃ y, A.getD s.size false = y := ⟨_, rfl⟩
      rw [hy] at cN HE
      clear hA hP hB hy h
      go_wp2
      go_ret
      exact ⟨y, rfl, HE.out, HB.out⟩
    · -- two stars
      have h1 := (rest_some r _ _ h).1
      obtain ⟨h2, h3, hx1, hx2⟩ := rest_two r X h
      have h4 : (1 : Int) < r.size := by omega
      have h5 : (2 : Int) ≤ r.size := by omega
      have HX1 := hid hx1
      have HX2 := hid hx2
      have HT2 := hid (show toks p.data.toList = (ts ++ [256]) ++ toks X by rw [HT.out, h, toks_two]; simp)
      have HH := hid (show Half A s.size 1 (fun j => Rs f ts 0 j) (fun j => Rs f (ts ++ [256]) 0 j) from fun j hj => ⟨fun hj1 => by
        obtain rfl : j = 0 := by omega
        show A.getD 0 false = true ↔ Rs f (ts ++ [256]) 0 0
        rw [any_zero]; exact hP 0 hj, fun _ => hP j hj⟩)
      clear hx1 hx2 hA hP hB h HT
      go_wp2
      obtain ⟨wo, rfl⟩ : ∃ wo : World, wo = wr := ⟨_, rfl⟩
      go_loopw [7] (fun i wr => ∃ (k : Nat) (A : List Bool), 1 ≤ k ∧ k ≤ s.size + 1 ∧ i = .int .i64 k ∧ Bw wr w.heap.size w.heap.size (s.size + 1) A ∧ Half A s.size k (fun j => Rs f ts 0 j) (fun j => Rs f (ts ++ [256]) 0 j) ∧ Below w.heap.size w wr) (fun i _ => s.size + 1 - (intOf i).toNat)
      case atStart => exact ⟨1, A, Nat.le_refl _, by omega, rfl, HA.out, HH.out, HB.out⟩
      case round =>
        obtain ⟨k, A, hk1, hk2, rfl, hA, hH, hB⟩ := hrel
        clear HA HP HB HH
        have HA := hid hA
        have HH := hid hH
        have HB := hid hB
        have hl := hA.len
        by_cases hlt : k ≤ s.size
        · obtain ⟨m, rfl⟩ : ∃ m, k = m + 1 := ⟨k - 1, by omega⟩
          have hm : m < s.size := by omega
          have hm1 : (m : Int) + 1 ≤ s.size := by omega
          have hm2 : (m : Int) + 1 < (s.size : Int) + 1 := by omega
          have hm3 : (m : Int) < (s.size : Int) + 1 := by omega
          have hm4 : (m : Int) < (s.size : Int) := by omega
          have ca := hA.cell (m + 1) (by omega)
          have cb := hA.cell m (by omega)
          have fa := hA.fr (m + 1)
          have Pa := hid ((hH (m + 1) (by omega)).2 (Nat.le_refl _))
          have Qb := hid ((hH m (by omega)).1 (by omega))
          clear hA hH hB hlt hk2 hl
          cases ha : A.getD (m + 1) false with
          | true =>
            rw [ha] at ca Pa
            have H1 := hid (HA.out.set (m + 1) true)
            have H2 := hid (HH.out.up (y := true) HA.out.len (by omega) (by show true = true ↔ Rs f (ts ++ [256]) 0 (m + 1); rw [any_step]; exact ⟨fun _ => .inl (Pa.out.1 rfl), fun _ => rfl⟩))
            have H3 := hid (Below.setCell HB.out (p := ⟨w.heap.size, m + 1, none⟩) (Nat.le_refl _) (.bool true))
            clear HA HH HB Pa Qb
            go_wp2
            go_roundw
            case rel => exact ⟨m + 1 + 1, _, by omega, by omega, by go_num, H1.out, H2.out, H3.out⟩
            case measure => simp [intOf]; omega
          | false =>
            rw [ha] at ca Pa
            cases hb : A.getD m false with
            | true =>
              rw [hb] at cb Qb
              have H1 := hid (HA.out.set (m + 1) true)
              have H2 := hid (HH.out.up (y := true) HA.out.len (by omega) (by show true = true ↔ Rs f (ts ++ [256]) 0 (m + 1); rw [any_step]; exact ⟨fun _ => .inr (Qb.out.1 rfl), fun _ => rfl⟩))
              have H3 := hid (Below.setCell HB.out (p := ⟨w.heap.size, m + 1, none⟩) (Nat.le_refl _) (.bool true))
              clear HA HH HB Pa Qb
              go_wp2
              go_roundw
              case rel => exact ⟨m + 1 + 1, _, by omega, by omega, by go_num, H1.out, H2.out, H3.out⟩
              case measure => simp [intOf]; omega
            | false =>
              rw [hb] at cb Qb
              have H1 := hid (HA.out.set (m + 1) false)
              have H2 := hid (HH.out.up (y := false) HA.out.len (by omega) (by show false = true ↔ Rs f (ts ++ [256]) 0 (m + 1); rw [any_step]; exact ⟨(fun h => by cases h), fun h => Or.elim h Pa.out.2 Qb.out.2⟩))
              have H3 := hid (Below.setCell HB.out (p := ⟨w.heap.size, m + 1, none⟩) (Nat.le_refl _) (.bool false))
              clear HA HH HB Pa Qb
              go_wp2
              go_roundw
              case rel => exact ⟨m + 1 + 1, _, by omega, by omega, by go_num, H1.out, H2.out, H3.out⟩
              case measure => simp [intOf]; omega
        · obtain rfl : k = s.size + 1 := by omega
          have HQ := hid (show ∀ j, j ≤ s.size → (A.getD j false = true ↔ Rs f (ts ++ [256]) 0 j) from fun j hj => (hH j hj).1 (by omega))
          clear hA hH hB HH hl
          go_wp2
          go_roundg (r.extract 2 r.size).size
          case measure => have := HR.out; have := HX2.out; omega
          case rel => exact ⟨(r.extract 2 r.size), ts ++ [256], A, rfl, rfl, by have := HX2.out; omega, by rw [HX1.out]; exact HT2.out, HA.out, HQ.out, HB.out⟩
    · -- one star
      have h1 := (rest_some r _ _ h).1
      have h0 := (rest_some r _ _ h).2
      have h2 := rest_not_two r (by intro Y e; rw [h] at e; cases e; exact hX 42 Y rfl rfl)
      have h3 : (((r[0]'h0).toNat : Int) == 42) = true := by rw [rest_head r _ _ h h0]; rfl
      obtain ⟨hx1, hx2⟩ := rest_tail r _ X h
      have h5 : (1 : Int) ≤ r.size := by omega
      have HX1 := hid hx1
      have HX2 := hid hx2
      have HT2 := hid (show toks p.data.toList = (ts ++ [257]) ++ toks X by rw [HT.out, h, toks_one X hX]; simp)
      have HH := hid (show Half A s.size 1 (fun j => Rs f ts 0 j) (fun j => Rs f (ts ++ [257]) 0 j) from fun j hj => ⟨fun hj1 => by
        obtain rfl : j = 0 := by omega
        show A.getD 0 false = true ↔ Rs f (ts ++ [257]) 0 0
        rw [run_zero]; exact hP 0 hj, fun _ => hP j hj⟩)
      clear hx1 hx2 hA hP hB h HT hX
      go_upto_region 11 with fail
      obtain ⟨wo, hwo⟩ : ∃ wo : World, wo = wr := ⟨_, rfl⟩
      go_cut [46] (fun t wc => t = .bool false ∧ wc = wr)
      case first =>
        by_cases h4 : (1 : Int) < r.size
        · go_wp2_with fail
          go_meet
          case rel => exact ⟨rfl, rfl⟩
        · go_wp2_with fail
          go_meet
          case rel => exact ⟨rfl, rfl⟩
      obtain ⟨rfl, hw⟩ := hcut
      subst hw
      clear hwo
      go_wp2
      go_loopw [8] (fun i wr => ∃ (k : Nat) (A : List Bool), 1 ≤ k ∧ k ≤ s.size + 1 ∧ i = .int .i64 k ∧ Bw wr w.heap.size w.heap.size (s.size + 1) A ∧ Half A s.size k (fun j => Rs f ts 0 j) (fun j => Rs f (ts ++ [257]) 0 j) ∧ Below w.heap.size w wr) (fun i _ => s.size + 1 - (intOf i).toNat)
      case atStart => exact ⟨1, A, Nat.le_refl _, by omega, rfl, HA.out, HH.out, HB.out⟩
      case round =>
        obtain ⟨k, A, hk1, hk2, rfl, hA, hH, hB⟩ := hrel
        clear HA HP HB HH
        have HA := hid hA
        have HH := hid hH
        have HB := hid hB
        have hl := hA.len
        by_cases hlt : k ≤ s.size
        · obtain ⟨m, rfl⟩ : ∃ m, k = m + 1 := ⟨k - 1, by omega⟩
          have hm : m < s.size := by omega
          have hm1 : (m : Int) + 1 ≤ s.size := by omega
          have hm2 : (m : Int) + 1 < (s.size : Int) + 1 := by omega
          have hm3 : (m : Int) < (s.size : Int) + 1 := by omega
          have hm4 : (m : Int) < (s.size : Int) := by omega
          have ca := hA.cell (m + 1) (by omega)
          have cb := hA.cell m (by omega)
          have fa := hA.fr (m + 1)
          have Pa := hid ((hH (m + 1) (by omega)).2 (Nat.le_refl _))
          have Qb := hid ((hH m (by omega)).1 (by omega))
          clear hA hH hB hlt hk2 hl
          have hfm := HF.out m hm
          cases ha : A.getD (m + 1) false with
          | true =>
            rw [ha] at ca Pa
            have H1 := hid (HA.out.set (m + 1) true)
            have H2 := hid (HH.out.up (y := true) HA.out.len (by omega) (by show true = true ↔ Rs f (ts ++ [257]) 0 (m + 1); rw [run_step]; exact ⟨fun _ => .inl (Pa.out.1 rfl), fun _ => rfl⟩))
            have H3 := hid (Below.setCell HB.out (p := ⟨w.heap.size, m + 1, none⟩) (Nat.le_refl _) (.bool true))
            clear HA HH HB Pa Qb
            go_wp2
            go_roundw
            case rel => exact ⟨m + 1 + 1, _, by omega, by omega, by go_num, H1.out, H2.out, H3.out⟩
            case measure => simp [intOf]; omega
          | false =>
            rw [ha] at ca Pa
            cases hb : A.getD m false with
            | true =>
              rw [hb] at cb Qb
              by_cases hsl : f m = 47
              · have hne : (((s[m]'hm).toNat : Int) != 47) = false := by rw [hfm, hsl]; rfl
                clear hfm
                have H1 := hid (HA.out.set (m + 1) false)
                have H2 := hid (HH.out.up (y := false) HA.out.len (by omega) (by show false = true ↔ Rs f (ts ++ [257]) 0 (m + 1); rw [run_step]; exact ⟨(fun h => by cases h), fun h => Or.elim h Pa.out.2 (fun h2 => absurd hsl h2.2)⟩))
                have H3 := hid (Below.setCell HB.out (p := ⟨w.heap.size, m + 1, none⟩) (Nat.le_refl _) (.bool false))
                clear HA HH HB Pa Qb
                go_wp2
                go_roundw
                case rel => exact ⟨m + 1 + 1, _, by omega, by omega, by go_num, H1.out, H2.out, H3.out⟩
                case measure => simp [intOf]; omega
              · have hne : (((s[m]'hm).toNat : Int) != 47) = true := by rw [hfm, bne_iff_ne]; omega
                clear hfm
                have H1 := hid (HA.out.set (m + 1) true)
                have H2 := hid (HH.out.up (y := true) HA.out.len (by omega) (by show true = true ↔ Rs f (ts ++ [257]) 0 (m + 1); rw [run_step]; exact ⟨fun _ => .inr ⟨Qb.out.1 rfl, hsl⟩, fun _ => rfl⟩))
                have H3 := hid (Below.setCell HB.out (p := ⟨w.heap.size, m + 1, none⟩) (Nat.le_refl _) (.bool true))
                clear HA HH HB Pa Qb
                go_wp2
                go_roundw
                case rel => exact ⟨m + 1 + 1, _, by omega, by omega, by go_num, H1.out, H2.out, H3.out⟩
                case measure => simp [intOf]; omega
            | false =>
              rw [hb] at cb Qb
              clear hfm
              have H1 := hid (HA.out.set (m + 1) false)
              have H2 := hid (HH.out.up (y := false) HA.out.len (by omega) (by show false = true ↔ Rs f (ts ++ [257]) 0 (m + 1); rw [run_step]; exact ⟨(fun h => by cases h), fun h => Or.elim h Pa.out.2 (fun h2 => Qb.out.2 h2.1)⟩))
              have H3 := hid (Below.setCell HB.out (p := ⟨w.heap.size, m + 1, none⟩) (Nat.le_refl _) (.bool false))
              clear HA HH HB Pa Qb
              go_wp2
              go_roundw
              case rel => exact ⟨m + 1 + 1, _, by omega, by omega, by go_num, H1.out, H2.out, H3.out⟩
              case measure => simp [intOf]; omega
        · obtain rfl : k = s.size + 1 := by omega
          have HQ := hid (show ∀ j, j ≤ s.size → (A.getD j false = true ↔ Rs f (ts ++ [257]) 0 j) from fun j hj => (hH j hj).1 (by omega))
          clear hA hH hB HH hl
          go_wp2
          go_roundg (r.extract 1 r.size).size
          case measure => have := HR.out; have := HX2.out; omega
          case rel => exact ⟨(r.extract 1 r.size), ts ++ [257], A, rfl, rfl, by have := HX2.out; omega, by rw [HX1.out]; exact HT2.out, HA.out, HQ.out, HB.out⟩
    · -- another byte
      have h1 := (rest_some r _ _ h).1
      have h0 := (rest_some r _ _ h).2
      have h2 := rest_not_two r (by intro Y e; rw [h] at e; cases e; exact hc rfl)
      have h0c : r[0]'h0 = c := rest_head r _ _ h h0
      have h3 : (((r[0]'h0).toNat : Int) == 42) = false := by rw [h0c]; exact byte_int c hc
      have H0C := hid h0c
      obtain ⟨hx1, hx2⟩ := rest_tail r _ X h
      have h5 : (1 : Int) ≤ r.size := by omega
      have HX1 := hid hx1
      have HX2 := hid hx2
      have HT2 := hid (show toks p.data.toList = (ts ++ [c.toNat]) ++ toks X by rw [HT.out, h, toks_byte c X hc]; simp)
      have HH := hid (show Half A s.size (s.size + 1) (fun j => Rs f (ts ++ [c.toNat]) 0 j) (fun j => Rs f ts 0 j) from fun j hj => ⟨fun _ => hP j hj, fun h6 => by omega⟩)
      clear hx1 hx2 hA hP hB h HT h0c
      go_upto_region 11 with fail
      go_cut [46] (fun t wc => t = .bool false ∧ wc = wr)
      case first =>
        by_cases h4 : (1 : Int) < r.size
        · go_wp2_with fail
          go_meet
          case rel => exact ⟨rfl, rfl⟩
        · go_wp2_with fail
          go_meet
          case rel => exact ⟨rfl, rfl⟩
      obtain ⟨rfl, hw⟩ := hcut
      subst hw
      go_wp2
      go_loopw [9] (fun i wr => ∃ (k : Nat) (A : List Bool), k ≤ s.size ∧ i = .int .i64 k ∧ Bw wr w.heap.size w.heap.size (s.size + 1) A ∧ Half A s.size (k + 1) (fun j => Rs f (ts ++ [c.toNat]) 0 j) (fun j => Rs f ts 0 j) ∧ Below w.heap.size w wr) (fun i _ => (intOf i).toNat)
      case atStart => exact ⟨s.size, A, Nat.le_refl _, rfl, HA.out, HH.out, HB.out⟩
      case round =>
        obtain ⟨k, A, hk2, rfl, hA, hH, hB⟩ := hrel
        clear HA HP HB HH
        have HA := hid hA
        have HH := hid hH
        have HB := hid hB
        have hl := hA.len
        by_cases hlt : 0 < k
        · obtain ⟨m, rfl⟩ : ∃ m, k = m + 1 := ⟨k - 1, by omega⟩
          have hm : m < s.size := by omega
          have hm2 : (m : Int) + 1 < (s.size : Int) + 1 := by omega
          have hm3 : (m : Int) < (s.size : Int) + 1 := by omega
          have hm4 : (m : Int) < (s.size : Int) := by omega
          have hm5 : (0 : Int) < (m : Int) + 1 := by omega
          have cb := hA.cell m (by omega)
          have ca := hA.cell (m + 1) (by omega)
          have fa := hA.fr (m + 1)
          have Pb := hid ((hH m (by omega)).1 (by omega))
          have hfm := HF.out m hm
          clear hA hH hB hlt hk2 hl
          cases hb : A.getD m false with
          | true =>
            rw [hb] at cb Pb
            by_cases hsl : f m = c.toNat
            · have hne : (((s[m]'hm).toNat : Int) == ((r[0]'h0).toNat : Int)) = true := by rw [hfm, hsl, H0C.out, beq_iff_eq]
              clear hfm
              have H1 := hid (HA.out.set (m + 1) true)
              have H2 := hid (HH.out.down (y := true) HA.out.len (by omega) (by show true = true ↔ Rs f (ts ++ [c.toNat]) 0 (m + 1); rw [byte_step f ts _ m c.toNat_lt]; exact ⟨fun _ => ⟨Pb.out.1 rfl, hsl⟩, fun _ => rfl⟩))
              have H3 := hid (Below.setCell HB.out (p := ⟨w.heap.size, m + 1, none⟩) (Nat.le_refl _) (.bool true))
              clear HA HH HB Pb
              go_wp2
              go_region
              go_wp2
              go_roundw
              case rel => exact ⟨m, _, by omega, by go_num, H1.out.drew, H2.out, H3.out.drew⟩
              case measure => simp [intOf]
            · have hne : (((s[m]'hm).toNat : Int) == ((r[0]'h0).toNat : Int)) = false := by rw [hfm, H0C.out, beq_eq_false_iff_ne]; omega
              clear hfm
              have H1 := hid (HA.out.set (m + 1) false)
              have H2 := hid (HH.out.down (y := false) HA.out.len (by omega) (by show false = true ↔ Rs f (ts ++ [c.toNat]) 0 (m + 1); rw [byte_step f ts _ m c.toNat_lt]; exact ⟨(fun h => by cases h), fun h => absurd h.2 hsl⟩))
              have H3 := hid (Below.setCell HB.out (p := ⟨w.heap.size, m + 1, none⟩) (Nat.le_refl _) (.bool false))
              clear HA HH HB Pb
              go_wp2
              go_region
              go_wp2
              go_roundw
              case rel => exact ⟨m, _, by omega, by go_num, H1.out.drew, H2.out, H3.out.drew⟩
              case measure => simp [intOf]
          | false =>
            rw [hb] at cb Pb
            clear hfm
            have H1 := hid (HA.out.set (m + 1) false)
            have H2 := hid (HH.out.down (y := false) HA.out.len (by omega) (by show false = true ↔ Rs f (ts ++ [c.toNat]) 0 (m + 1); rw [byte_step f ts _ m c.toNat_lt]; exact ⟨(fun h => by cases h), fun h => Pb.out.2 h.1⟩))
            have H3 := hid (Below.setCell HB.out (p := ⟨w.heap.size, m + 1, none⟩) (Nat.le_refl _) (.bool false))
            clear HA HH HB Pb
            go_wp2
            go_region
            go_wp2
            go_roundw
            case rel => exact ⟨m, _, by omega, by go_num, H1.out.drew, H2.out, H3.out.drew⟩
            case measure => simp [intOf]
        · obtain rfl : k = 0 := by omega
          have c0 := hA.cell 0 (by omega)
          have f0 := hA.fr 0
          have H1 := hid (hA.set 0 false)
          have HH0 := HH.out.down (y := false) hA.len (by omega) (by show false = true ↔ Rs f (ts ++ [c.toNat]) 0 0; exact ⟨(fun h => by cases h), fun h => absurd h (byte_zero f ts _ c.toNat_lt)⟩)
          have HQ := hid (show ∀ j, j ≤ s.size → ((A.set 0 false).getD j false = true ↔ Rs f (ts ++ [c.toNat]) 0 j) from fun j hj => (HH0 j hj).2 (Nat.zero_le _))
          have H3 := hid (Below.setCell hB (p := ⟨w.heap.size, 0, none⟩) (Nat.le_refl _) (.bool false))
          have hs1 : (0 : Int) < (s.size : Int) + 1 := by omega
          clear hA hH hB HH HH0 HA HB hl
          go_wp2
          go_roundg (r.extract 1 r.size).size
          case measure => have := HR.out; have := HX2.out; omega
          case rel => exact ⟨r.extract 1 r.size, ts ++ [c.toNat], _, rfl, rfl, by have := HX2.out; omega, by rw [HX1.out]; exact HT2.out, H1.out, HQ.out, H3.out⟩
end Go.Proofs.Qxb6601218a
