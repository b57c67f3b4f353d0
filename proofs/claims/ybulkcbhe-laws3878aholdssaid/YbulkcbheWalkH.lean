import Derived.Test.YbulkcbheWalkD
import Derived.Test.YbulkcbheParts
import Derived.Test.YbulkcbhePartsB
import Derived.Deep.CutRange
import Derived.OpenShut
namespace Go.Proofs.Ybulkcbhe
open Go.RowKit Go.Sort
set_option linter.unusedVariables false
def IsRow (k : IntKind) (w : World) (a : Option Addr) (len cap : Nat) (zs : List Int) : Prop :=
  (a = none ∧ len = 0 ∧ cap = 0 ∧ zs = []) ∨
  ∃ x, a = some x ∧ len ≤ cap ∧ cap ≤ maxLen ∧ zs.length = cap ∧ (∀ i, i < zs.length → w.cell? (x.add i) = some (.int k (zs.getD i 0))) ∧ ∀ n ∈ zs, (Lit.int k n).wf = true

/-- A row's element: its cell's address and its bounds. -/
theorem IsRow.at {k : IntKind} {w : World} {a : Option Addr} {len cap : Nat} {zs : List Int} (h : IsRow k w a len cap zs) (i : Nat) (hi : i < len) :
    ∃ b o, a = some ⟨b, o, none⟩ ∧ b < w.heap.size ∧ w.cell? ⟨b, o + i, none⟩ = some (.int k (zs.getD i 0)) ∧ (Lit.int k (zs.getD i 0)).wf = true ∧ i < zs.length := by
  rcases h with ⟨_, h1, _⟩ | ⟨x, rfl, h1, h2, h3, h4, h5⟩
  · omega
  · obtain ⟨b, o, rfl, hc⟩ := ints_at h4 (show 0 < zs.length by omega)
    have hi' : i < zs.length := by omega
    refine ⟨b, o, rfl, ?_, hc i hi', h5 _ ?_, hi'⟩
    · exact World.block_lt_of_cell? _ _ (hc i hi')
    · simp [List.getD, hi']
theorem info28 : (Yba.prog.info? 28).map (fun i => (i.zero, i.size, i.bytes)) = some (some (.int .i16 0), 1, 2) := by kernel_rfl
theorem info26 : (Yba.prog.info? 26).map (fun i => (i.zero, i.size, i.bytes)) = some (some (.slice none 0 0), 1, 24) := by kernel_rfl
theorem wrap16_fits (n : Int) (h1 : -32768 ≤ n) (h2 : n ≤ 32767) : IntKind.i16.wrap (IntKind.i64.wrap n) = n := by
  have e : IntKind.i64.wrap n = n := by
    unfold IntKind.wrap; simp [IntKind.bits, IntKind.signed]; omega
  rw [e]
  unfold IntKind.wrap; simp [IntKind.bits, IntKind.signed]; omega
theorem zero24 (w : World) : Sem.run Yba.prog (zeroValue 24) w = .ok (.agg zeros256) w := by kernel_rfl

set_option maxHeartbeats 800000 in
set_option maxRecDepth 100000 in
theorem walk_in (a0 : Option Addr) (len0 cap0 : Nat) (z0 : List Int) (a1 : Option Addr) (len1 cap1 : Nat) (z1 : List Int) (w : World) (w0 : IsRow .i8 w a0 len0 cap0 z0) (w1 : IsRow .u8 w a1 len1 cap1 z1)
    (h0 : len0 ≤ 4096) (h1 : len1 ≤ 4096) :
    Calls Yba.prog 3 #[.slice a0 len0 cap0, .slice a1 len1 cap1] w fun e w' => e = .returned (.bool true) ∧ Below w.heap.size w w' := by
  have W0 : Aside (IsRow .i8 w a0 len0 cap0 z0) := w0
  have W1 : Aside (IsRow .u8 w a1 len1 cap1 z1) := w1
  clear w0 w1
  have hz := zero24
  go_enter Yba.func3, Yba.ntmps3
  go_wp2
  go_loopw [26] (fun i wr => ∃ k : Nat, k ≤ len0 ∧ i = .int .i64 k ∧ Aside (Flags wr w.heap.size (mark z0 k)) ∧ Aside (Below w.heap.size w wr)) (fun i _ => len0 - (intOf i).toNat)
  case atStart => exact ⟨0, Nat.zero_le _, rfl, (Flags.new w).congr (fun v _ => (mark_zero z0 v).symm), (Below.refl _ _).alloc (Nat.le_refl _) _⟩
  case round =>
    obtain ⟨k, hk, rfl, hfl, hbe⟩ := hrel
    by_cases hlt : k < len0
    · obtain ⟨b, o, rfl, hb, hc, hw, hk2⟩ := IsRow.at W0.out k hlt
      have hc' := (hbe.out.cell (p := ⟨b, o + k, none⟩) hb).trans hc
      have hbd := bounds_i8 hw
      obtain ⟨z, hz0⟩ : ∃ z, z = z0.getD k 0 := ⟨_, rfl⟩
      rw [← hz0] at hc' hbd
      have HZ : Hid (z = z0.getD k 0) := hz0
      have hcp := hfl.out.cell (z + 128).toNat (by omega)
      have hfr := hfl.out.free (z + 128).toNat
      clear hw hc hz0
      go_wp2
      go_roundw
      case rel => exact ⟨k + 1, by omega, by go_num, by rw [HZ.out] at hbd ⊢; exact flags_mark hfl.out hk2 hbd.1, hbe.out.setCell (Nat.le_refl _) _⟩
      case measure => simp [intOf]; omega
    · obtain ⟨f, hf⟩ : ∃ f, f = mark z0 k := ⟨_, rfl⟩
      rw [← hf] at hfl
      clear hf
      have hsz : w.heap.size < wr.heap.size := hfl.out.lt
      go_wp2
      go_loopw [8, 9] (fun s i wr => ∃ k : Nat, k ≤ 256 ∧ i = .int .i64 k ∧ Aside (wr.ownsRow (w.heap.size + 1) 28 1 s (srt f k).length ((srt f k).map (Value.int .i16))) ∧ Aside (Flags wr w.heap.size f) ∧ Aside (Below w.heap.size w wr)) (fun _ i _ => 256 - (intOf i).toNat)
      case atStart => exact ⟨0, Nat.zero_le _, rfl, World.ownsRow_nil _ _ _ _, hfl, hbe⟩
      case round =>
        obtain ⟨k2, hk2, rfl, hown, hfl2, hbe2⟩ := hrel
        by_cases hlt2 : k2 < 256
        · have hcp := hfl2.out.cell k2 hlt2
          cases hfk : f k2 <;> rw [hfk] at hcp
          · have HF : Hid (f k2 = false) := hfk
            clear hfk
            go_wp2
            go_roundw
            case rel => exact ⟨k2 + 1, by omega, by go_num, by rw [srt_no f k2 HF.out]; exact hown, hfl2, hbe2⟩
            case measure => simp [intOf]; omega
          · have HF : Hid (f k2 = true) := hfk
            clear hfk
            have hlen := srt_len f k2
            have hbs := hbe2.out.size
            have hfs := hfl2.out.lt
            obtain ⟨i0, hi, hz0, hz1, hz2⟩ := info_parts info28
            go_wp2_with (at_builtin; refine wpList_append_own _ rfl (.tmp 42) (.tmp 46) 26 rfl (w.heap.size + 1) 28 i0 (.int .i16 0) 1 2 Yba.underlying26 hi hz0 hz1 hz2 rfl (by decide) _ _ _ rfl (hown.out.alloc _) ⟨wr.heap.size, 0, none⟩ 1 1 [.int .i16 ((k2 : Int) - 128)] rfl rfl ?c1 ?c2 ?c3 ?c4 ?c5 ?_)
            case c1 => exact cell_one_new _ _ _
            case c2 => intro u hu; simp at hu; subst hu; rfl
            case c3 => unfold maxLen; omega
            case c4 => omega
            case c5 => simp; omega
            intro v' w1 hown' hgr _
            clear hz0 hz1 hz2 hi
            have hown2 : w1.ownsRow (w.heap.size + 1) 28 1 v' (srt f (k2 + 1)).length ((srt f (k2 + 1)).map (Value.int .i16)) := by
              rw [srt_yes f k2 HF.out]; simpa using hown'
            have HO : Aside _ := hown2
            have HR : Aside _ := row_step hown.out hfl2.out hbe2.out hgr
            clear hown' hgr hown2
            go_wp2
            go_roundw
            case rel => exact ⟨k2 + 1, by omega, by go_num, HO, HR.out.1, HR.out.2⟩
            case measure => simp [intOf]; omega
        · obtain rfl : k2 = 256 := by omega
          have hlen := srt_len f 256
          obtain ⟨xs, hxs⟩ : ∃ xs, xs = srt f 256 := ⟨_, rfl⟩
          rw [← hxs] at hown hlen
          have HX : Hid (xs = srt f 256) := hxs
          clear hxs
          obtain ⟨sa, cap, g, hv, hcm, hrow⟩ := row_open hown.out
          subst hv
          have HR : Hid _ := hrow
          have hbs := hbe2.out.size
          have hfs := hfl2.out.lt
          clear hrow hown
          unfold maxLen at hcm
          obtain ⟨wa, hwa⟩ : ∃ wa, wa = wr := ⟨wr, rfl⟩
          subst hwa
          go_wp2
          obtain ⟨W2, hW2⟩ : ∃ W2, W2 = wa.alloc (Obj.cells #[Value.int IntKind.i64 0, Value.slice none 0 0, Value.int IntKind.i64 xs.length] 33) := ⟨_, rfl⟩
          have HB0 : Hid (W2.heap[wa.heap.size]? = some (.cells #[.int .i64 0, .slice none 0 0, .int .i64 xs.length] 33 (0, 0))) := by rw [hW2]; exact heap_alloc_new _ _
          have HBW : Hid (Below wa.heap.size wa W2) := by rw [hW2]; exact (Below.refl _ _).alloc (Nat.le_refl _) _
          rw [← hW2]
          clear hW2
          go_loopg [11, 12] xs.length (fun kx s11 s12 wr => ∃ (j s : Nat) (ls : List (Nat × Nat)) (rv : Value), s11 = .int .i64 j ∧ s12 = .int .i64 s ∧ j ≤ xs.length ∧ s ≤ j ∧ xs.length - j ≤ kx ∧
            Aside (wr.heap[wa.heap.size]? = some (.cells #[.int .i64 0, rv, .int .i64 xs.length] 33 (0, 0)) ∧ wr.ownsRow (wa.heap.size + 1) 26 1 rv ls.length (ls.map (runVal g cap)) ∧ Below wa.heap.size W2 wr ∧ Cuts ls j))
          case atStart => exact ⟨0, 0, [], _, rfl, rfl, Nat.zero_le _, Nat.le_refl _, Nat.sub_le _ _, (⟨HB0.out, World.ownsRow_nil _ _ _ _, Below.refl _ _, cuts_nil⟩ : _ ∧ _)⟩
          case round =>
            obtain ⟨j, s, ls, rv, rfl, rfl, hj, hs, hkx, I⟩ := hrel
            by_cases hlt3 : j < xs.length
            · obtain ⟨hsa, hcap, hbg, hgl, hrw⟩ := HR.out (by omega)
              subst hsa
              clear hrw
              go_upto_if 59 with fail
              go_cut [13] from 52 to 91 (fun s13 wx => ∃ sz : Nat, s13 = .int .i64 sz ∧ 1 ≤ sz ∧ sz ≤ 8 ∧ wx = wr)
              case first =>
                by_cases hs1 : s < len1
                · obtain ⟨b1, o1, hsa1, hb1, hc1, hw1, hk1⟩ := IsRow.at W1.out s hs1
                  subst hsa1
                  have hbd1 := bounds_u8 hw1
                  have hc2 : wr.cell? ⟨b1, o1 + s, none⟩ = some (.int .u8 (z1.getD s 0)) := by
                    have e1 : wr.cell? ⟨b1, o1 + s, none⟩ = W2.cell? ⟨b1, o1 + s, none⟩ := I.out.2.2.1.cell (p := ⟨b1, o1 + s, none⟩) (by show b1 < wa.heap.size; omega)
                    have e2 : W2.cell? ⟨b1, o1 + s, none⟩ = wa.cell? ⟨b1, o1 + s, none⟩ := HBW.out.cell (p := ⟨b1, o1 + s, none⟩) (by show b1 < wa.heap.size; omega)
                    have e3 : wa.cell? ⟨b1, o1 + s, none⟩ = w.cell? ⟨b1, o1 + s, none⟩ := hbe2.out.cell (p := ⟨b1, o1 + s, none⟩) hb1
                    rw [e1, e2, e3]; exact hc1
                  obtain ⟨z, hz0⟩ : ∃ z, z = z1.getD s 0 := ⟨_, rfl⟩
                  rw [← hz0] at hc2 hbd1
                  clear hz0 hw1 hc1
                  go_wp2
                  go_meet
                  case rel => exact ⟨(1 + z % 8).toNat, by go_num, by omega, by omega, rfl⟩
                · go_wp2
                  go_meet
                  case rel => exact ⟨1, rfl, by omega, by omega, rfl⟩
              case rest =>
                obtain ⟨sz, rfl, hs1, hs8, rfl⟩ := hcut
                go_upto_if 75 with fail
                go_cut [14] from 52 to 91 (fun s14 wx => ∃ e : Nat, s14 = .int .i64 e ∧ j < e ∧ e ≤ xs.length ∧ wx = wc)
                case first =>
                  by_cases he : xs.length < j + sz
                  · go_wp2
                    go_meet
                    case rel => exact ⟨xs.length, rfl, by omega, by omega, rfl⟩
                  · go_wp2
                    go_meet
                    case rel => exact ⟨j + sz, by go_num, by omega, by omega, rfl⟩
                case rest =>
                  obtain ⟨e, rfl, hje, hen, rfl⟩ := hcut
                  have hbl1 := blk_cell I.out.1 1
                  have hbf1 := blk_free I.out.1 1
                  have hblt := lt_of_block I.out.1
                  have hec : e ≤ cap := by omega
                  have hjle : j ≤ e := by omega
                  have hcj : ¬ cap = j := by omega
                  go_upto_region 26 with fail
                  go_cut [] from 52 to 91 (fun wx => ∃ rv', wx.heap[wa.heap.size]? = some (.cells #[.int .i64 0, rv', .int .i64 xs.length] 33 (0, 0)) ∧ wx.ownsRow (wa.heap.size + 1) 26 1 rv' (ls ++ [(j, e - j)]).length ((ls ++ [(j, e - j)]).map (runVal g cap)) ∧ Below wa.heap.size W2 wx)
                  case first =>
                    obtain ⟨i0, hi, hz0, hz1, hz2⟩ := info_parts info26
                    simp only [List.getElem?_toArray, List.getElem?_cons_succ, List.getElem?_cons_zero] at hbl1
                    have hcnt := I.out.2.2.2.cnt
                    have hml : ls.length + 1 ≤ maxLen := by unfold maxLen; omega
                    go_region_law (refine step_append_own rfl (.tmp 82) (.tmp 87) 31 rfl (wa.heap.size + 1) 26 i0 (.slice none 0 0) 1 24 Yba.underlying31 hi hz0 hz1 hz2 rfl (by decide) _ _ _ rfl (I.out.2.1.alloc _) ⟨wc.heap.size, 0, none⟩ 1 1 [runVal g cap (j, e - j)] rfl rfl (cell_one_new _ _ _) (by intro u hu; simp at hu; subst hu; rfl) hml (by omega) (by simp; omega) ?_; intro v' w1 hown' hgr _; obtain ⟨g', cap', hv', hbg'⟩ := own_form hown'; subst hv'; have R := run_step (wr := wc.drew) I.out.1 I.out.2.1 I.out.2.2.1.drew hown' hgr; have q1 := blk_cell R.1 1; have q2 := blk_free R.1 1; simp only [List.getElem?_toArray, List.getElem?_cons_succ, List.getElem?_cons_zero] at q1; have RR : Hid _ := R.2; clear hown' hgr R)
                    all_goals (go_wp2_with fail; go_meet; case rel => exact ⟨_, RR.out.1, by simpa using RR.out.2.1, RR.out.2.2⟩)
                  case rest =>
                    obtain ⟨rv', hB', hO', hW'⟩ := hcut
                    have J : Aside (wc.heap[wa.heap.size]? = some (.cells #[.int .i64 0, rv', .int .i64 xs.length] 33 (0, 0)) ∧ wc.ownsRow (wa.heap.size + 1) 26 1 rv' (ls ++ [(j, e - j)]).length ((ls ++ [(j, e - j)]).map (runVal g cap)) ∧ Below wa.heap.size W2 wc ∧ Cuts (ls ++ [(j, e - j)]) e) := ⟨hB', hO', hW', cuts_push I.out.2.2.2 hje⟩
                    clear hB' hO' hW'
                    go_wp2
                    go_roundg (xs.length - e)
                    case measure => omega
                    case rel => exact ⟨e, s + 1, ls ++ [(j, e - j)], rv', rfl, by go_num, hen, by omega, Nat.le_refl _, J⟩
            · obtain rfl : j = xs.length := by omega
              obtain ⟨hB3, hO3, hW3, hC3⟩ := I.out
              have hbe3 : Aside (Below w.heap.size w wr) := (hbe2.out.trans (HBW.out.mono (by omega))).trans (hW3.mono (by omega))
              have hfl3 : Aside (Flags wr w.heap.size f) := (hfl2.out.below HBW.out hfs).below hW3 hfs
              obtain ⟨br, ao, rc, hRA⟩ := runs_of (cur := #[]) hB3 hO3 hC3 (by omega) (fun h => by
                obtain ⟨_, _, _, hgl, cur, h1, h2⟩ := HR.out h
                exact ⟨cur, blk_below (blk_below h1 HBW.out hgl) hW3 hgl, h2⟩)
              have HRA : Aside _ := hRA
              have hAsc : Aside _ := cuts_asc g cap hC3 (fun i j h1 h2 => by rw [HX.out] at h2 ⊢; exact srt_mono f 256 i j h1 h2)
              have hHas : Aside (∀ v : Nat, v < 256 → (Has ls.length (fun r => runOf g cap xs (ls.getD r (0, 0))) ((v : Int) - 128) ↔ f v = true)) := fun v hv => by
                rw [cuts_has g cap hC3, HX.out]; exact srt_mem f 256 v hv
              clear hB3 hO3 hW3 hC3 hRA
              obtain ⟨wb, hwb⟩ : ∃ wb, wb = wr := ⟨wr, rfl⟩
              subst hwb
              have hbw := hbe3.out.size
              have hfw := hfl3.out.lt
              go_wp2
              go_loopg [15] 256 (fun kx s15 wr => ∃ v : Nat, s15 = .int .i64 v ∧ v ≤ 256 ∧ 256 - v ≤ kx ∧ Aside (Qt wb wr))
              case atStart => exact ⟨0, rfl, Nat.zero_le _, Nat.sub_le _ _, Qt.refl _⟩
              case round =>
                obtain ⟨v, rfl, hv, hkv, hq⟩ := hrel
                by_cases hlt4 : v < 256
                · have hcp := hq.out.keeps _ _ (hfl3.out.cell v hlt4)
                  have hvz : (v : Int) < 256 := by omega
                  have hwr := wrap16_fits ((v : Int) - 128) (by omega) (by omega)
                  go_upto_region 31 with fail
                  go_cut [104] from 92 to 104 (fun s104 wx => s104 = .bool false ∧ Aside (Qt wb wx))
                  case first =>
                    go_region_with (go_at_call 5; refine (holds_any _ wa.heap.size br 0 ao rc ls.length _ _ (HRA.out.keep hq.out.drew.keeps) hAsc.out).mono ?_; rintro e w9 ⟨b9, rfl, hb9, hq9⟩; have hq8 : Aside (Qt wb w9) := hq.out.drew.trans hq9; have hc9 := hq8.out.keeps _ _ (hfl3.out.cell v hlt4); obtain rfl : b9 = f v := (Bool.eq_iff_iff).2 (hb9.trans (hHas.out v hlt4)); clear hb9 hq9)
                    all_goals (go_wp2_with fail; go_meet; case rel => exact ⟨by simp, hq8⟩)
                  case rest =>
                    obtain ⟨rfl, hq4⟩ := hcut
                    go_wp2
                    go_roundg (256 - (v + 1))
                    case measure => omega
                    case rel => exact ⟨v + 1, by go_num, by omega, Nat.le_refl _, hq4⟩
                · go_wp2
                  go_ret
                  exact ⟨rfl, hbe3.out.trans (hq.out.below.mono (by omega))⟩

set_option maxHeartbeats 400000 in
theorem walk (a0 : Option Addr) (len0 cap0 : Nat) (z0 : List Int) (a1 : Option Addr) (len1 cap1 : Nat) (z1 : List Int) (w : World) (w0 : IsRow .i8 w a0 len0 cap0 z0) (w1 : IsRow .u8 w a1 len1 cap1 z1) :
    Calls Yba.prog 3 #[.slice a0 len0 cap0, .slice a1 len1 cap1] w fun e w' => e = .returned (.bool true) ∧ Below w.heap.size w w' := by
  by_cases h0 : len0 ≤ 4096
  · by_cases h1 : len1 ≤ 4096
    · exact walk_in a0 len0 cap0 z0 a1 len1 cap1 z1 w w0 w1 h0 h1
    · clear w0 w1
      have h0' : ¬ (4096 : Int) < len0 := by omega
      have h1' : (4096 : Int) < len1 := by omega
      go_enter Yba.func3, Yba.ntmps3
      go_wp2
      go_ret
      exact ⟨rfl, Below.refl _ _⟩
  · clear w0 w1
    have h0' : (4096 : Int) < len0 := by omega
    go_enter Yba.func3, Yba.ntmps3
    go_wp2
    go_ret
    exact ⟨rfl, Below.refl _ _⟩
end Go.Proofs.Ybulkcbhe
