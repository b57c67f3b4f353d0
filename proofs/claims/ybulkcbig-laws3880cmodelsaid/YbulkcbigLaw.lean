import Derived.Test.YbulkcbigOwnH
import Derived.Deep.Cut
namespace Go.Proofs.Ybulkcbig
open Go.RowKit
set_option linter.unusedVariables false

theorem cut_self (ss : List Int) (a : Nat) : cut ss a a = [] := by simp [cut]
theorem cut_succ (ss : List Int) (a j : Nat) (h : a ≤ j) (hj : j < ss.length) : cut ss a (j + 1) = cut ss a j ++ [ss.getD j 0] := by
  apply List.ext_getElem?
  intro i
  rcases Nat.lt_trichotomy i (j - a) with hi | hi | hi
  · rw [cut_get ss a (j + 1) i (by omega) (by omega), List.getElem?_append_left (by rw [cut_len ss a j h (by omega)]; exact hi), cut_get ss a j i hi (by omega)]
  · rw [cut_get ss a (j + 1) i (by omega) (by omega), List.getElem?_append_right (by rw [cut_len ss a j h (by omega)]; omega), cut_len ss a j h (by omega)]
    rw [show i - (j - a) = 0 by omega, show a + i = j by omega]; rfl
  · rw [List.getElem?_eq_none (by rw [cut_len ss a (j + 1) (by omega) (by omega)]; omega), List.getElem?_eq_none (by rw [List.length_append, cut_len ss a j h (by omega)]; simp; omega)]

theorem Own.below {B N : Nat} {w w' : World} {v : Value} {xs : List Int} (h : Own B w v xs) (hN : w.heap.size ≤ N) (hb : Below N w w') : Own B w' v xs := by
  have h0 := h
  obtain ⟨h1, h2 | ⟨g, cap, cur, rfl, hbg, hg, rest⟩⟩ := h
  · exact ⟨h1, .inl h2⟩
  · refine ⟨h1, .inr ⟨g, cap, cur, rfl, hbg, ?_, rest⟩⟩
    rw [hb.block g (by have := (h0.lt g rfl).2; omega)]
    exact hg

/-- A byte of the slice that came in. -/
theorem In.byte {w w' : World} {a : Option Addr} {ss : List Int} (h : In w a ss.length ss) (hb : Below w.heap.size w w') (j : Nat) (hj : j < ss.length) : ∃ x, a = some x ∧ w'.cell? (x.add j) = some (.int .u8 (ss.getD j 0)) := by
  obtain ⟨_, ⟨_, h1⟩ | ⟨x, rfl, hx, hc⟩⟩ := In.below h hb
  · omega
  · exact ⟨x, rfl, hc j hj⟩

set_option maxRecDepth 100000 in
set_option maxHeartbeats 3200000 in
theorem law_small (a0 : Option Addr) (cap0 : Nat) (dd : List Int) (a1 : Option Addr) (cap1 : Nat) (ss : List Int) (x2 x3 x4 x5 : Int) (w : World)
    (hd : In w a0 dd.length dd) (hs : In w a1 ss.length ss) (c0 : a0 = none → cap0 = 0) (c1 : a1 = none → cap1 = 0) (hdl : dd.length ≤ 1048576) (hsl : ss.length ≤ 1048576)
    (b2 : 0 ≤ x2 ∧ x2 < 65536) (b3 : 0 ≤ x3 ∧ x3 < 65536) (b4 : 0 ≤ x4 ∧ x4 < 4294967296) (b5 : 0 ≤ x5 ∧ x5 < 4294967296) :
    Calls Yba.prog 4 #[.slice a0 dd.length cap0, .slice a1 ss.length cap1, .int .u16 x2, .int .u16 x3, .int .u32 x4, .int .u32 x5] w fun e w' => e = .returned (.bool true) ∧ Below w.heap.size w w' := by
  obtain ⟨A, hA⟩ : ∃ A : Nat, (A : Int) = x2 % ((ss.length : Int) + 1) := ⟨(x2 % ((ss.length : Int) + 1)).toNat, by have := Int.emod_nonneg x2 (show ((ss.length : Int) + 1) ≠ 0 by omega); omega⟩
  have hAl : A ≤ ss.length := by have := Int.emod_lt_of_pos x2 (show (0 : Int) < (ss.length : Int) + 1 by omega); omega
  have hA' : Int.tmod x2 ((ss.length : Int) + 1) = (A : Int) := by rw [Int.tmod_eq_emod_of_nonneg b2.1]; exact hA.symm
  obtain ⟨D, hD⟩ : ∃ D : Nat, (D : Int) = x3 % ((ss.length : Int) - A + 1) := ⟨(x3 % ((ss.length : Int) - A + 1)).toNat, by have := Int.emod_nonneg x3 (show ((ss.length : Int) - A + 1) ≠ 0 by omega); omega⟩
  have hDl : A + D ≤ ss.length := by have := Int.emod_lt_of_pos x3 (show (0 : Int) < (ss.length : Int) - A + 1 by omega); omega
  have hD' : Int.tmod x3 ((ss.length : Int) - A + 1) = (D : Int) := by rw [Int.tmod_eq_emod_of_nonneg b3.1]; exact hD.symm
  obtain ⟨o, ho⟩ : ∃ o : Int, o = x4 % 2097152 := ⟨_, rfl⟩
  have ho' : Int.tmod x4 2097152 = o := by rw [Int.tmod_eq_emod_of_nonneg b4.1]; exact ho.symm
  have ho0 : 0 ≤ o := by omega
  have ho1 : o < 2097152 := by omega
  obtain ⟨l, hl⟩ : ∃ l : Int, l = x5 % 16777276 := ⟨_, rfl⟩
  have hl' : Int.tmod x5 16777276 = l := by rw [Int.tmod_eq_emod_of_nonneg b5.1]; exact hl.symm
  have hl0 : 0 ≤ l := by omega
  have hl1 : l < 16777276 := by omega
  clear ho hl hA hD
  have HD : Hid (In w a0 dd.length dd) := hd
  have HS : Hid (In w a1 ss.length ss) := hs
  clear hd hs
  obtain ⟨T, hT⟩ : ∃ T : Nat, (A : Int) + (D : Int) = (T : Int) := ⟨A + D, by omega⟩
  have hTA : (T : Int) - (A : Int) = (D : Int) := by omega
  obtain ⟨F, hF⟩ : ∃ F : Nat, F = min D 3 := ⟨_, rfl⟩
  obtain ⟨K, hK⟩ : ∃ K : Nat, (T : Int) - (F : Int) = (K : Int) := ⟨T - F, by omega⟩
  have hF3 : F ≤ 3 := by omega
  have hFD : F ≤ D := by omega
  have hKA : A ≤ K := by omega
  have hKT : K ≤ T := by omega
  have hTs : T ≤ ss.length := by omega
  have hKF : (K : Int) + F = T := by omega
  have hFc : (D ≤ 3 ∧ F = D) ∨ (3 < D ∧ F = 3) := by omega
  clear hDl hF
  go_enter Yba.func4, Yba.ntmps4
  go_upto_region 4 with (at_builtin; refine wpList_append_in rfl _ _ rfl rfl a1 ss.length cap1 rfl c1 ss HS.out hsl ?_; intro vs w1 os1 bs1)
  obtain ⟨sa, scap, rfl, hsc⟩ := own_form os1
  have HO1 : Hid (Own w.heap.size w1 (.slice sa ss.length scap) ss) := os1
  have HB1 : Hid (Below w.heap.size w w1) := bs1
  have HD1 : Hid (In w1 a0 dd.length dd) := In.below HD.out bs1
  have hz1 := bs1.size
  clear os1 bs1
  go_upto_region 5 with (at_builtin; refine wpList_append_in rfl _ _ rfl rfl a0 dd.length cap0 rfl c0 dd HD1.out hdl ?_; intro vd w2 od2 bd2)
  have HO2 : Hid (Own w1.heap.size w2 vd dd) := od2
  have HB2 : Hid (Below w1.heap.size w1 w2) := bd2
  have hz2 := bd2.size
  have H3 : Hid _ := copy3_any w1.heap.size vd (.slice sa ss.length scap) A K T (65536 + o) (4 + l) dd ss w2 HO2.out hz2 ((own_at HO1.out (Nat.le_refl _)).below HB2.out) hsl (by omega) (by omega) hTs hdl (by omega) (by omega) (by omega) (by omega)
  clear od2 bd2
  go_wp2_with fail
  refine Calls.mono H3.out ?_
  rintro e w3 ⟨vg, rfl, og3, bg3⟩
  have HO3 : Hid (Own w1.heap.size w3 vg (dd ++ enc ss A K T (65536 + o - 65536) (4 + l))) := og3
  have HB3 : Hid (Below w1.heap.size w1 w3) := HB2.out.trans bg3
  have hz3 := HB3.out.size
  have HB3' : Hid (Below w.heap.size w w3) := HB1.out.trans (HB3.out.mono hz1)
  have HD3 : Hid (In w3 a0 dd.length dd) := In.below HD.out HB3'.out
  clear og3 bg3
  go_upto_region 12 with (at_builtin; refine wpList_append_in rfl _ _ rfl rfl a0 dd.length cap0 rfl c0 dd HD3.out hdl ?_; intro vw w4 ow4 bw4)
  have HO4 : Hid (Own w3.heap.size w4 vw dd) := ow4
  have HB4 : Hid (Below w3.heap.size w3 w4) := bw4
  have hz4 := bw4.size
  clear ow4 bw4
  go_upto_if 80 with fail
  go_cut [22] from 31 (fun s22 wx => s22 = .int .i64 F ∧ wx = w4)
  case first =>
    rcases hFc with ⟨h1, h2⟩ | ⟨h1, h2⟩
    all_goals
      go_wp2_with fail
      go_meet
      case rel => exact ⟨by rw [h2] <;> rfl, rfl⟩
  case rest =>
    obtain ⟨rfl, hwx⟩ := hcut
    obtain ⟨w5, hw5⟩ : ∃ w5, w5 = w4 := ⟨w4, rfl⟩
    rw [← hw5] at hwx HO4 HB4 hz4
    clear hw5
    subst hwx
    obtain ⟨w4, hw4⟩ : ∃ w4, w4 = wc := ⟨wc, rfl⟩
    subst hw4
    have hKA' : (K : Int) - (A : Int) = ((K - A : Nat) : Int) := by omega
    generalize hG : K - A = G at hKA'
    go_upto_if 88 with fail
    go_cut [21, 25, 26] from 31 (fun s21 _ _ wx => Hid (Own w3.heap.size wx s21 (dd ++ lits ss A K) ∧ Below w3.heap.size w3 wx))
    case first =>
      by_cases hAK : A < K
      · have HL : Hid (lits ss A K = head ((K : Int) - A) ++ cut ss A K) := if_pos hAK
        go_upto_if 90 with fail
        go_cut [21, 25] from 31 (fun s21 _ wx => Hid (Own w3.heap.size wx s21 (dd ++ head G) ∧ Below w3.heap.size w3 wx))
        case first =>
          have HOW : Hid (∀ o : Obj, Own w3.heap.size (w4.alloc o) vw dd) := fun o => HO4.out.alloc o
          have hG1 : 1 ≤ G := by omega
          have hGl : G ≤ 1048576 := by omega
          obtain ⟨i0, hi, hz0, hz1', hz2'⟩ := info_parts info5
          by_cases hle : G ≤ 29
          · have HH : Hid (head G = [((G : Int) - 1) * 8]) := if_pos (by omega)
            go_wp2_with (at_builtin; refine wpList_append_own _ rfl _ _ 36 rfl w3.heap.size 5 i0 (.int .u8 0) 1 1 Yba.underlying36 hi hz0 hz1' hz2' rfl (by decide) _ _ _ rfl (HOW.out _) ⟨w4.heap.size, 0, none⟩ 1 1 [_] rfl rfl (cell_one_new _ _ _) (fun x hx => by simp at hx; subst hx; rfl) (by unfold maxLen; omega) (by omega) (by simp; omega) ?_; intro v' w5 hown' hgrow3 hnil3)
            go_meet
            case rel =>
              have hP := own_push HO4.out hz4 hown' hgrow3
              exact (show _ ∧ _ from ⟨by rw [HH.out]; exact hP.1, HB4.out.trans hP.2⟩)
          · have HH0 : head G = (28 + (ext ((G : Int) - 30) : Int)) * 8 :: le ((G : Int) - 30) (ext ((G : Int) - 30)) := if_neg (by omega)
            have hx := ext_le ((G : Int) - 30)
            have HC := ext_any ((G : Int) - 30)
            have HU := fun v' xs' w' => cle_any w3.heap.size v' xs' ((G : Int) - 30) (ext ((G : Int) - 30)) w'
            generalize ext ((G : Int) - 30) = E at hx HC HH0 HU
            have HH : Hid _ := HH0
            have HUh : Hid _ := HU
            have HCh : Hid (∀ w : World, Calls Yba.prog 10 #[.int .i64 ((G : Int) - 30)] w fun e w' => e = .returned (.int .i64 E) ∧ w' = w) := HC
            clear HU HH0 HC
            go_wp2_with (first
              | (go_at_call 10; refine (HCh.out _).mono ?_; rintro e wq ⟨rfl, hwq⟩; subst hwq)
              | (at_builtin; refine wpList_append_own _ rfl _ _ 36 rfl w3.heap.size 5 i0 (.int .u8 0) 1 1 Yba.underlying36 hi hz0 hz1' hz2' rfl (by decide) _ _ _ rfl (HOW.out _) ⟨_, 0, none⟩ 1 1 [_] rfl rfl (cell_one_new _ _ _) (fun x hx => by simp at hx; subst hx; rfl) (by unfold maxLen; omega) (by omega) (by simp; omega) ?_; intro v' w5 hown' hgrow3 hnil3))
            have hP := own_push HO4.out hz4 hown' hgrow3
            refine (HUh.out _ _ _ hP.1 (by have := hP.2.size; omega) (by omega) (by simp; omega)).mono ?_
            rintro e w6 ⟨v6, rfl, hO6, hB6⟩
            have HQ : Hid (Own w3.heap.size w6 v6 (dd ++ head G) ∧ Below w3.heap.size w3 w6) := (show _ ∧ _ from ⟨by rw [HH.out]; simpa using hO6, (HB4.out.trans hP.2).trans hB6⟩)
            clear hP hO6 hB6 hown' hgrow3 hnil3
            go_wp2_with fail
            go_meet
            case rel => exact HQ
        case rest =>
          have HQ : Hid _ := hcut
          clear hcut
          have hhl : (head (G : Int)).length ≤ 4 := by
            unfold head
            split
            · simp
            · rw [List.length_cons, le_len]; have := ext_le ((G : Int) - 30); omega
          obtain ⟨i0, hi, hz0, hz1', hz2'⟩ := info_parts info5
          go_wp2_with fail
          go_loopg [21, 26] (K - A) (fun kx s21 s26 wr => ∃ j : Nat, s26 = .int .i64 j ∧ A ≤ j ∧ j ≤ K ∧ K - j ≤ kx ∧ Hid (Own w3.heap.size wr s21 (dd ++ head G ++ cut ss A j) ∧ Below w3.heap.size w3 wr))
          case atStart => exact ⟨A, rfl, Nat.le_refl _, hKA, Nat.le_refl _, (show _ ∧ _ from ⟨by rw [cut_self, List.append_nil]; exact HQ.out.1, HQ.out.2⟩)⟩
          case round =>
            obtain ⟨j, rfl, hAj, hjK, hkx, HR⟩ := hrel
            have hz5 := HR.out.2.size
            by_cases hjk : j < K
            · obtain ⟨x, hxa, hcell⟩ := In.byte HS.out (HB3'.out.trans (HR.out.2.mono (by omega))) j (by omega)
              subst hxa
              have HCS : Hid (cut ss A (j + 1) = cut ss A j ++ [ss.getD j 0]) := cut_succ ss A j hAj (by omega)
              have hll : (dd ++ head G ++ cut ss A j).length ≤ 3000000 := by rw [List.length_append, List.length_append, cut_len ss A j hAj (by omega)]; omega
              generalize ss.getD j 0 = y at hcell HCS
              have HOW : Hid (∀ o : Obj, Own w3.heap.size (wr.alloc o) u21 (dd ++ head G ++ cut ss A j)) := fun o => HR.out.1.alloc o
              go_wp2_with (at_builtin; refine wpList_append_own _ rfl _ _ 36 rfl w3.heap.size 5 i0 (.int .u8 0) 1 1 Yba.underlying36 hi hz0 hz1' hz2' rfl (by decide) _ _ _ rfl (HOW.out _) ⟨wr.heap.size, 0, none⟩ 1 1 [_] rfl rfl (cell_one_new _ _ _) (fun x hx => by simp at hx; subst hx; rfl) (by unfold maxLen; omega) (by omega) (by simp; omega) ?_; intro v' w7 hown' hgrow3 hnil3)
              go_roundg (K - (j + 1))
              case measure => omega
              case rel =>
                have hP := own_push HR.out.1 hz5 hown' hgrow3
                rw [List.append_assoc, ← HCS.out] at hP
                exact ⟨j + 1, rfl, by omega, by omega, Nat.le_refl _, (show _ ∧ _ from ⟨hP.1, HR.out.2.trans hP.2⟩)⟩
            · obtain rfl : j = K := by omega
              go_wp2_with fail
              go_meet
              case rel => exact (show _ ∧ _ from ⟨by rw [HL.out, hKA', ← List.append_assoc]; exact HR.out.1, HR.out.2⟩)
      · have HL : Hid (lits ss A K = []) := if_neg hAK
        go_wp2_with fail
        go_meet
        case rel => exact (show _ ∧ _ from ⟨by rw [HL.out, List.append_nil]; exact HO4.out, HB4.out⟩)
    case rest =>
      have HQ1 : Hid _ := hcut
      clear hcut
      have hcr := code_rng (4 + l) (by omega)
      have hxr := extra_le (4 + l)
      go_upto_if 129 with fail
      obtain ⟨wd, hwd⟩ : ∃ wd, wd = wc := ⟨wc, rfl⟩
      subst hwd
      go_cut [27, 28] from 31 (fun s27 s28 wx => s27 = .int .i64 (code (4 + l)) ∧ s28 = .int .i64 (extra (4 + l) : Nat) ∧ Hid (wx = wd))
      case first =>
        by_cases h64 : 4 + l ≤ 64
        · have e1 : Hid (code (4 + l) = 4 + l - 4) := if_pos h64
          have e2 : Hid (extra (4 + l) = 0) := if_pos h64
          go_wp2_with fail
          go_meet
          case rel => exact ⟨by rw [e1.out], by rw [e2.out]; rfl, rfl⟩
        · have e1 : Hid (code (4 + l) = 60 + ext (4 + l - 64)) := if_neg h64
          have e2 : Hid (extra (4 + l) = ext (4 + l - 64)) := if_neg h64
          have HC := ext_any (4 + l - 64)
          have hx := ext_le (4 + l - 64)
          generalize ext (4 + l - 64) = E at e1 e2 HC hx
          have HCh : Hid (∀ w : World, Calls Yba.prog 10 #[.int .i64 (4 + l - 64)] w fun e w' => e = .returned (.int .i64 E) ∧ w' = w) := HC
          clear HC
          go_wp2_with fail
          refine (HCh.out _).mono ?_
          rintro e wq ⟨rfl, hwq⟩
          subst hwq
          go_wp2_with fail
          go_meet
          case rel => exact ⟨by rw [e1.out], by rw [e2.out], rfl⟩
      case rest =>
        obtain ⟨rfl, rfl, hwx⟩ := hcut
        have hwx' := hwx.out
        subst hwx'
        clear hwx
        have hll := lits_len ss A K (by omega)
        have H5 : Hid _ := fun (w' : World) (hw : Own w3.heap.size w' u21 (dd ++ lits ss A K)) (hz : w3.heap.size ≤ w'.heap.size) => cle_any w3.heap.size u21 _ (word F (code (4 + l)) o) 4 w' hw hz (by omega) (by rw [List.length_append]; omega)
        have H6 : Hid _ := fun (v' : Value) (w' : World) (hw : Own w3.heap.size w' v' (dd ++ lits ss A K ++ le (word F (code (4 + l)) o) 4)) (hz : w3.heap.size ≤ w'.heap.size) => cle_any w3.heap.size v' _ (4 + l - 64) (extra (4 + l)) w' hw hz (by omega) (by rw [List.length_append, List.length_append, le_len]; omega)
        have hor1 := or64a (F : Int) (by omega) (by omega)
        have hor2 := or64b (F : Int) (code (4 + l)) (by omega) (by omega) hcr.1 hcr.2
        have hor3 := or64c (F : Int) (code (4 + l)) o (by omega) (by omega) hcr.1 hcr.2 ho0 ho1
        have hoo : 65536 + o - 65536 = o := by omega
        have hEnc : Hid (enc ss A K T (65536 + o - 65536) (4 + l) = lits ss A K ++ (le (word F (code (4 + l)) o) 4 ++ (le (4 + l - 64) (extra (4 + l)) ++ cut ss K T))) := by
          show _ = _
          unfold enc
          rw [hoo, show (T : Int) - (K : Int) = (F : Int) by omega]
        generalize hC : code (4 + l) = C at *
        generalize hE : extra (4 + l) = E at *
        generalize hW : word F C o = W at *
        have hz6 := HQ1.out.2.size
        go_wp2_with fail
        refine Calls.mono (H5.out _ HQ1.out.1 (by omega)) ?_
        rintro e w5 ⟨v5, rfl, ho5, hb5⟩
        have hz7 := hb5.size
        have H6' : Hid _ := H6.out v5 w5 ho5 (by omega)
        have HB5 : Hid (Below w3.heap.size w3 w5) := HQ1.out.2.trans hb5
        clear ho5 hb5
        go_wp2_with fail
        refine Calls.mono H6'.out ?_
        rintro e w6 ⟨v6, rfl, ho6, hb6⟩
        have HO6 : Hid (Own w3.heap.size w6 v6 (dd ++ lits ss A K ++ le W 4 ++ le (4 + l - 64) E)) := ho6
        have HB6 : Hid (Below w3.heap.size w3 w6) := HB5.out.trans hb6
        have hz8 := HB6.out.size
        clear ho6 hb6
        obtain ⟨i0, hi, hz0, hz1', hz2'⟩ := info_parts info5
        go_wp2_with fail
        go_loopg [21, 30] (T - K) (fun kx s21 s30 wr => ∃ j : Nat, s30 = .int .i64 j ∧ K ≤ j ∧ j ≤ T ∧ T - j ≤ kx ∧ Hid (Own w3.heap.size wr s21 (dd ++ lits ss A K ++ le W 4 ++ le (4 + l - 64) E ++ cut ss K j) ∧ Below w3.heap.size w3 wr))
        case atStart => exact ⟨K, rfl, Nat.le_refl _, hKT, Nat.le_refl _, (show _ ∧ _ from ⟨by rw [cut_self, List.append_nil]; exact HO6.out, HB6.out⟩)⟩
        case round =>
          obtain ⟨j, rfl, hAj, hjK, hkx, HR⟩ := hrel
          have hz5 := HR.out.2.size
          by_cases hjk : j < T
          · obtain ⟨x, hxa, hcell⟩ := In.byte HS.out (HB3'.out.trans (HR.out.2.mono (by omega))) j (by omega)
            subst hxa
            have HCS : Hid (cut ss K (j + 1) = cut ss K j ++ [ss.getD j 0]) := cut_succ ss K j hAj (by omega)
            have hll2 : (dd ++ lits ss A K ++ le W 4 ++ le (4 + l - 64) E ++ cut ss K j).length ≤ 9000000 := by simp only [List.length_append, le_len, cut_len ss K j hAj (by omega)]; omega
            generalize ss.getD j 0 = y at hcell HCS
            have HOW : Hid (∀ o : Obj, Own w3.heap.size (wr.alloc o) u21 (dd ++ lits ss A K ++ le W 4 ++ le (4 + l - 64) E ++ cut ss K j)) := fun o => HR.out.1.alloc o
            go_wp2_with (at_builtin; refine wpList_append_own _ rfl _ _ 36 rfl w3.heap.size 5 i0 (.int .u8 0) 1 1 Yba.underlying36 hi hz0 hz1' hz2' rfl (by decide) _ _ _ rfl (HOW.out _) ⟨wr.heap.size, 0, none⟩ 1 1 [_] rfl rfl (cell_one_new _ _ _) (fun x hx => by simp at hx; subst hx; rfl) (by unfold maxLen; omega) (by omega) (by simp; omega) ?_; intro v' w7 hown' hgrow3 hnil3)
            go_roundg (T - (j + 1))
            case measure => omega
            case rel =>
              have hP := own_push HR.out.1 hz5 hown' hgrow3
              rw [List.append_assoc, ← HCS.out] at hP
              exact ⟨j + 1, rfl, by omega, by omega, Nat.le_refl _, (show _ ∧ _ from ⟨hP.1, HR.out.2.trans hP.2⟩)⟩
          · have hjT : T = j := by omega
            subst hjT
            have hh := HO3.out
            rw [hEnc.out] at hh
            have HG : Own w1.heap.size w3 vg (dd ++ lits ss A K ++ le W 4 ++ le (4 + l - 64) E ++ cut ss K T) := by simpa only [List.append_assoc] using hh
            have e1 := own_str (HG.below (Nat.le_refl _) HR.out.2)
            have e2 := own_str HR.out.1
            have hsw : Below w1.heap.size w1 wr := HB3.out.trans (HR.out.2.mono hz3)
            have e3 := own_str (HO1.out.below (Nat.le_refl _) hsw)
            have e4 := In.str (cap := cap1) (In.below HS.out (HB3'.out.trans (HR.out.2.mono (by omega))))
            have Q1 : Hid _ := eq_any _ _ _ wr e1 e2
            have Q2 : Hid _ := eq_any _ _ _ wr e3 e4
            clear hh HG e1 e2 e3 e4 hsw
            have HBF : Hid (Below w.heap.size w wr) := HB3'.out.trans (HR.out.2.mono (by omega))
            go_wp2_with fail
            refine Calls.mono Q1.out ?_
            rintro e w8 ⟨rfl, rfl⟩
            go_wp2_with fail
            refine Calls.mono Q2.out ?_
            rintro e w9 ⟨rfl, rfl⟩
            go_wp2_with fail
            go_ret
            exact ⟨rfl, HBF.out⟩
end Go.Proofs.Ybulkcbig
