import Derived.Test.YbulkcbhePartsE
namespace Go.Proofs.Ybulkcbhe
open Go.RowKit Go.Sort
set_option linter.unusedVariables false

/-- What the walk is told of the steps that came in. -/
def IsOps (w : World) (a : Option Addr) (len : Nat) (O V : Nat → Int) : Prop :=
  ∀ k, k < len → ∃ b o, a = some ⟨b, o, none⟩ ∧ b < w.heap.size ∧ w.cell? ⟨b, o + k * 2, none⟩ = some (.int .u8 (O k)) ∧ w.cell? ⟨b, o + k * 2 + 1, none⟩ = some (.int .i8 (V k)) ∧ 0 ≤ O k ∧ O k ≤ 255 ∧ -128 ≤ V k ∧ V k ≤ 127

/-- Behind a step that changed the list: the flag set, all the invariants. -/
theorem step_put {w wr w2 : World} {B m : Nat} {f : Nat → Bool} {x : Bool} {o : Obj} (hI : Flags wr B f ∧ LInv wr (B + 1) (.int .i64 (srt f 256).length) (srt f 256) ∧ Below B w wr)
    (h2 : LInv w2 (B + 1) (.int .i64 (srt (put f m x) 256).length) (srt (put f m x) 256) ∧ Below (B + 1) (wr.alloc o) w2) :
    Flags w2 B f ∧ (Flags (w2.setCell ⟨B, m, none⟩ (.bool x)) B (put f m x) ∧ LInv (w2.setCell ⟨B, m, none⟩ (.bool x)) (B + 1) (.int .i64 (srt (put f m x) 256).length) (srt (put f m x) 256) ∧ Below B w (w2.setCell ⟨B, m, none⟩ (.bool x))) := by
  obtain ⟨h3, h4, h5⟩ := hI
  obtain ⟨h6, h7⟩ := h2
  have hl := h3.lt
  have hf := (h3.alloc o).below h7 (by omega)
  refine ⟨hf, hf.set m x, h6.setBelow _ _ (by show B < B + 1; omega), ((h5.alloc (by omega) o).trans (h7.mono (by omega))).setCell (p := ⟨B, m, none⟩) (Nat.le_refl B) _⟩
theorem step_keep {w wr : World} {B : Nat} {f : Nat → Bool} (o : Obj) (hI : Flags wr B f ∧ LInv wr (B + 1) (.int .i64 (srt f 256).length) (srt f 256) ∧ Below B w wr) :
    Flags (wr.alloc o) B f ∧ LInv (wr.alloc o) (B + 1) (.int .i64 (srt f 256).length) (srt f 256) ∧ Below B w (wr.alloc o) :=
  ⟨hI.1.alloc o, hI.2.1.alloc o, hI.2.2.alloc (by have := hI.1.lt; omega) o⟩

theorem wrapS_fits (n : Int) (h1 : -32768 ≤ n) (h2 : n ≤ 32767) : IntKind.i16.wrap (IntKind.i64.wrap n) = n := by
  have e : IntKind.i64.wrap n = n := by
    unfold IntKind.wrap; simp [IntKind.bits, IntKind.signed]; omega
  rw [e]
  unfold IntKind.wrap; simp [IntKind.bits, IntKind.signed]; omega
theorem zeroS24 (w : World) : Sem.run Yba.prog (zeroValue 24) w = .ok (.agg zeros256) w := by kernel_rfl

set_option maxHeartbeats 1600000 in
set_option maxRecDepth 100000 in
theorem script_in (a0 : Option Addr) (len cap : Nat) (O V : Nat → Int) (w : World) (w0 : IsOps w a0 len O V) (hlen : len ≤ 1024) :
    Calls Yba.prog 4 #[.slice a0 len cap] w fun e w' => e = .returned (.bool true) ∧ Below w.heap.size w w' := by
  have W0 : Aside (IsOps w a0 len O V) := w0
  clear w0
  have hz := zeroS24
  go_enter Yba.func4, Yba.ntmps4
  go_wp2
  obtain ⟨B, hB⟩ : ∃ B, B = w.heap.size := ⟨_, rfl⟩
  go_loopg [4, 18] len (fun kx s4 s18 wr => ∃ (k : Nat) (f : Nat → Bool), k ≤ len ∧ len - k ≤ kx ∧ s18 = .int .i64 k ∧ s4 = .int .i64 (srt f 256).length ∧ Aside (Flags wr w.heap.size f ∧ LInv wr (w.heap.size + 1) (.int .i64 (srt f 256).length) (srt f 256) ∧ Below w.heap.size w wr))
  case atStart =>
    refine ⟨0, fun _ => false, Nat.zero_le _, Nat.sub_le _ _, rfl, ?_, ?_⟩
    · have e : srt (fun _ => false) 256 = [] := by simp [srt]
      rw [e]; rfl
    · have e : srt (fun _ => false) 256 = [] := by simp [srt]
      rw [e]
      have h1 := LInv.new (w.alloc (.cells zeros256 24))
      rw [World.size_alloc] at h1
      exact And.intro ((Flags.new w).alloc _) (And.intro h1 (((Below.refl _ w).alloc (Nat.le_refl _) _).alloc (by simp) _))
  case round =>
    obtain ⟨k, f, hk, hkx, rfl, rfl, I⟩ := hrel
    have hsl := srt_len f 256
    obtain ⟨n, hn⟩ : ∃ n, n = (srt f 256).length := ⟨_, rfl⟩
    have HN : Hid (n = (srt f 256).length) := hn
    by_cases hlt : k < len
    · rw [← hn] at hsl ⊢
      clear hn
      obtain ⟨b, o, rfl, hb, hc0, hc1, ho0, ho1, hv0, hv1⟩ := W0.out k hlt
      have hbw := I.out.1.lt
      have d0 := (I.out.2.2.cell (p := ⟨b, o + k * 2, none⟩) hb).trans hc0
      have d1 := (I.out.2.2.cell (p := ⟨b, o + k * 2 + 1, none⟩) hb).trans hc1
      obtain ⟨vk, hvk⟩ : ∃ vk, vk = V k := ⟨_, rfl⟩
      rw [← hvk] at hv0 hv1 d1
      obtain ⟨ok, hok⟩ : ∃ ok, ok = O k := ⟨_, rfl⟩
      rw [← hok] at ho0 ho1 d0
      have hcm := I.out.1.cell (vk + 128).toNat (by omega)
      have hfm := I.out.1.free (vk + 128).toNat
      have hwb : w.heap.size + 1 < wr.heap.size := I.out.2.1.lt
      clear hc0 hc1 hvk hok
      rcases (show ok % 2 = 0 ∨ ok % 2 = 1 by omega) with hp | hp
      · have hpb : (ok % 2 == 0) = true := by rw [hp]; rfl
        cases hb : f (vk + 128).toNat <;> rw [hb] at hcm
        · have HF : Hid (f (vk + 128).toNat = false) := hb
          clear hb
          go_wp2_with fail
          refine (add_mark f (vk + 128).toNat (by omega) HF.out (w.heap.size + 1) _ vk (by omega) (I.out.2.1.alloc _)).mono ?_
          rintro e w2 ⟨rfl, h2, h3⟩
          have HP : Hid _ := step_put I.out h2
          have hlt2 : w.heap.size + 1 < w2.heap.size := h2.1.lt
          have q1 := HP.out.1.cell (vk + 128).toNat (by omega)
          have q2 := HP.out.1.free (vk + 128).toNat
          have H3 : Hid _ := h3
          clear h2 h3
          go_wp2_with fail
          go_roundg (len - (k + 1))
          case measure => omega
          case rel => exact ⟨k + 1, _, by omega, Nat.le_refl _, by go_num, by rw [H3.out, ← HN.out]; go_num, HP.out.2⟩
        · have HF : Hid (f (vk + 128).toNat = true) := hb
          clear hb
          go_wp2_with fail
          go_roundg (len - (k + 1))
          case measure => omega
          case rel => exact ⟨k + 1, f, by omega, Nat.le_refl _, by go_num, by rw [← HN.out], step_keep _ I.out⟩
      · have hpb : (ok % 2 == 0) = false := by rw [hp]; rfl
        cases hb : f (vk + 128).toNat <;> rw [hb] at hcm
        · have HF : Hid (f (vk + 128).toNat = false) := hb
          clear hb
          go_wp2_with fail
          go_roundg (len - (k + 1))
          case measure => omega
          case rel => exact ⟨k + 1, f, by omega, Nat.le_refl _, by go_num, by rw [← HN.out], step_keep _ I.out⟩
        · have HF : Hid (f (vk + 128).toNat = true) := hb
          clear hb
          go_wp2_with fail
          refine (remove_mark f (vk + 128).toNat (by omega) HF.out (w.heap.size + 1) _ vk (by omega) (I.out.2.1.alloc _)).mono ?_
          rintro e w2 ⟨rfl, h2, h3⟩
          have HP : Hid _ := step_put I.out h2
          have hlt2 : w.heap.size + 1 < w2.heap.size := h2.1.lt
          have q1 := HP.out.1.cell (vk + 128).toNat (by omega)
          have q2 := HP.out.1.free (vk + 128).toNat
          have hn1 : 1 ≤ n := by have := HN.out; omega
          have H3 : Hid _ := h3
          clear h2 h3
          go_wp2_with fail
          go_roundg (len - (k + 1))
          case measure => omega
          case rel => exact ⟨k + 1, _, by omega, Nat.le_refl _, by go_num, by have h1 := H3.out; have h2 := HN.out; rw [show (n : Int) - 1 = ((srt (put f (vk + 128).toNat false) 256).length : Int) by omega], HP.out.2⟩
    · have hcnt := I.out.2.1.count
      rw [← hn] at hcnt ⊢
      have hbw := I.out.1.lt
      clear hn hsl
      go_wp2_with fail
      refine (len_any (w.heap.size + 1) wr n hcnt).mono ?_
      rintro e w1 ⟨rfl, rfl⟩
      go_wp2_with fail
      obtain ⟨wb, hwb⟩ : ∃ wb, wb = w1 := ⟨w1, rfl⟩
      subst hwb
      go_loopg [10] 256 (fun kx s10 wr => ∃ v : Nat, s10 = .int .i64 v ∧ v ≤ 256 ∧ 256 - v ≤ kx ∧ Aside (Qt wb wr))
      case atStart => exact ⟨0, rfl, Nat.zero_le _, Nat.sub_le _ _, Qt.refl _⟩
      case round =>
        obtain ⟨v, rfl, hv, hkv, hq⟩ := hrel
        by_cases hlt4 : v < 256
        · have hcp := hq.out.keeps _ _ (I.out.1.cell v hlt4)
          have hvz : (v : Int) < 256 := by omega
          have hwr := wrapS_fits ((v : Int) - 128) (by omega) (by omega)
          go_upto_region 26 with fail
          go_cut [71] from 59 to 71 (fun s71 wx => s71 = .bool false ∧ Aside (Qt wb wx))
          case first =>
            go_region_with (go_at_call 5; refine (holds_mark f v hlt4 (w.heap.size + 1) wb _ _ rfl _ I.out.2.1 hq.out.drew).mono ?_; rintro e w9 ⟨rfl, hq9⟩; have hq8 : Aside (Qt wb w9) := hq.out.drew.trans hq9; have hc9 := hq8.out.keeps _ _ (I.out.1.cell v hlt4); clear hq9)
            all_goals (go_wp2_with fail; go_meet; case rel => exact ⟨by simp, hq8⟩)
          case rest =>
            obtain ⟨rfl, hq4⟩ := hcut
            go_wp2
            go_roundg (256 - (v + 1))
            case measure => omega
            case rel => exact ⟨v + 1, by go_num, by omega, Nat.le_refl _, hq4⟩
        · go_wp2
          go_ret
          exact ⟨rfl, I.out.2.2.trans (hq.out.below.mono (by omega))⟩

set_option maxHeartbeats 400000 in
theorem script_walk (a0 : Option Addr) (len cap : Nat) (O V : Nat → Int) (w : World) (w0 : IsOps w a0 len O V) :
    Calls Yba.prog 4 #[.slice a0 len cap] w fun e w' => e = .returned (.bool true) ∧ Below w.heap.size w w' := by
  by_cases h0 : len ≤ 1024
  · exact script_in a0 len cap O V w w0 h0
  · clear w0
    have h0' : (1024 : Int) < len := by omega
    go_enter Yba.func4, Yba.ntmps4
    go_wp2
    go_ret
    exact ⟨rfl, Below.refl _ _⟩
end Go.Proofs.Ybulkcbhe
