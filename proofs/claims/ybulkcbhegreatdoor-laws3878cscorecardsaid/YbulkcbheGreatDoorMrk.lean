import Derived.Test.YbulkcbheGreatDoorTime
import Derived.Test.YbulkcbheGreatDoorNetC
import Derived.Test.YbulkcbheGreatDoorSco
import Derived.Deep.LoopGhost
import Derived.Deep.Cut
namespace Go.Proofs.YbulkcbheGreatDoor
open Go.RowKit
set_option linter.unusedVariables false
set_option linter.unusedSimpArgs false
set_option maxRecDepth 100000 in
set_option maxHeartbeats 1000000 in
theorem cutoff_any (be : Nat) (obs n s n' s' : Int) (w : World) (h0 : 0 ≤ n) (h1 : n < 1000000000) (hs1 : -3 ≤ s) (hs2 : s ≤ 3) (ho0 : 0 ≤ obs) (ho1 : obs ≤ 5000000000) (k0 : 0 ≤ n') (k1 : n' < 1000000000) (hk : s' * 1000000000 + n' = s * 1000000000 + n - obs)
    (e0 : w.cell? ⟨be, 18, none⟩ = some (.int .u64 0)) (e1 : w.cell? ⟨be, 19, none⟩ = some (.int .i64 0)) (e2 : w.cell? ⟨be, 20, none⟩ = some (.pointer none)) (e3 : w.cell? ⟨be, 7, none⟩ = some (.int .i64 obs)) :
    Calls Ybaz.prog 23 #[.pointer (some ⟨be, 0, none⟩), .agg #[.int .u64 n, .int .i64 s, .pointer none]] w fun e w' => e = .returned (.int .i64 (s' * 1000000000 + n')) ∧ Nw w w' := by
  have HA : Hid (∀ w, Calls Ybaz.prog 9 #[.agg #[.int .u64 n, .int .i64 s, .pointer none], .int .i64 (-obs)] w fun e w' => e = .returned (.agg #[.int .u64 n', .int .i64 s', .pointer none]) ∧ Nw w w') := fun w => add_is n s (-obs) n' s' w h0 h1 (by omega) (by omega) (by omega) (by omega) k0 k1 (by omega)
  have HI : Hid (∀ w', Nw w w' → Calls Ybaz.prog 38 #[.pointer (some ⟨be, 0, none⟩), .agg #[.int .u64 n', .int .i64 s', .pointer none]] w' fun e w'' => e = .returned (.int .i64 (s' * 1000000000 + n')) ∧ Nw w' w'') := fun w' h => instant_any be n' s' w' k0 k1 (by omega) (by omega) (h.keep' e0) (h.keep' e1) (h.keep' e2)
  have hneg : IntKind.i64.wrap (-obs) = -obs := by rw [IntKind.wrap_i64]; omega
  clear hk k0 k1
  go_enter Ybaz.func23, Ybaz.ntmps23
  go_wp2_with fail
  obtain ⟨w1, hw1⟩ : ∃ w1, w1 = w.alloc (.cells #[.int .u64 n, .int .i64 s, .pointer none] 55) := ⟨_, rfl⟩
  have N1 : Hid (Nw w w1) := hw1 ▸ ((Nw.refl w).alloc _)
  have B0 : Hid (w1.heap[w.heap.size]? = some (.cells #[.int .u64 n, .int .i64 s, .pointer none] 55 (0, 0))) := hw1 ▸ blk_new rfl
  have k0 := fun (w' : World) (h : Nw w1 w') (i : Nat) => blk_cell (blk_nw B0.out h) i
  have k1 := fun (w' : World) (h : Nw w1 w') => (N1.out.trans h).keep' e3
  rw [← hw1]
  clear hw1
  refine wp_region_nw' (by kernel_rfl) ?_
  repeat (
    refine wpQuiet_step (fun K hK => ?_)
    rw [if_pos (by rfl)]
    apply Exists.intro
    refine ⟨fun w' h' => ?_, hK _ ?_⟩
    (have q0 := k0 w' h'
     have q1 := k1 w' h'
     have HN : Hid (Nw w1 w') := h'
     go_simp
     first
       | done
       | (go_at_call 9; exact (HA.out _).mono fun e w'' h => ⟨h.1, HN.out.trans h.2⟩)
       | (go_at_call 38; exact (HI.out _ (N1.out.trans HN.out)).mono fun e w'' h => ⟨h.1, HN.out.trans h.2⟩)
       | with_reducible rfl)
    clear hK K
    try (simp only [Act.put]))
  refine wpQuiet_nil ?_
  intro w2 h2
  have HF : Hid (Nw w w2) := N1.out.trans h2
  clear k0 k1 h2
  go_simp
  go_wp2_with fail
  go_ret
  exact ⟨rfl, HF.out⟩

/-- The weights of the marks up to the first one younger than the cutoff. -/
def staleOf (cut : Int) : List (Int × Int) → Int
  | [] => 0
  | m :: ms => if m.1 ≤ cut then m.2 + staleOf cut ms else 0

theorem drop_getD (ms : List (Int × Int)) (j : Nat) (h : j < ms.length) : ms.drop j = ms.getD j (0, 0) :: ms.drop (j + 1) := by
  rw [List.drop_eq_getElem_cons h]
  simp [List.getD_eq_getElem?_getD, List.getElem?_eq_getElem h]
theorem getD_mem (ms : List (Int × Int)) (j : Nat) (h : j < ms.length) : ms.getD j (0, 0) ∈ ms := by
  simp [List.getD_eq_getElem?_getD, List.getElem?_eq_getElem h]
/-- A client's marks in memory: the first in the client itself, the rest in a row. -/
def Marks (w : World) (bc : Nat) (f : Int × Int) (ms : List (Int × Int)) : Prop :=
  w.cell? ⟨bc, 17, none⟩ = some (.int .i64 f.1) ∧ w.cell? ⟨bc, 18, none⟩ = some (.int .i64 f.2) ∧
  ((ms = [] ∧ w.cell? ⟨bc, 19, none⟩ = some (.pointer none)) ∨
   ∃ bp bs cap, ms ≠ [] ∧ w.cell? ⟨bc, 19, none⟩ = some (.pointer (some ⟨bp, 0, none⟩)) ∧ w.cell? ⟨bp, 0, none⟩ = some (.slice (some ⟨bs, 0, none⟩) ms.length cap) ∧
     ∀ i, i < ms.length → w.cell? ⟨bs, i * 2, none⟩ = some (.int .i64 (ms.getD i (0, 0)).1) ∧ w.cell? ⟨bs, i * 2 + 1, none⟩ = some (.int .i64 (ms.getD i (0, 0)).2))

set_option maxRecDepth 100000 in
set_option maxHeartbeats 1000000 in
theorem newest_none (bc : Nat) (t : Int) (w : World) (c0 : w.cell? ⟨bc, 17, none⟩ = some (.int .i64 t)) (c1 : w.cell? ⟨bc, 19, none⟩ = some (.pointer none)) :
    Calls Ybaz.prog 36 #[.pointer (some ⟨bc, 0, none⟩)] w fun e w' => e = .returned (.int .i64 t) ∧ Nw w w' := by
  go_enter Ybaz.func36, Ybaz.ntmps36
  go_wp2_with fail
  go_ret
  exact ⟨rfl, Nw.refl _⟩
set_option maxRecDepth 100000 in
set_option maxHeartbeats 1000000 in
theorem newest_some (bc bp bs cap n : Nat) (t : Int) (w : World) (c1 : w.cell? ⟨bc, 19, none⟩ = some (.pointer (some ⟨bp, 0, none⟩))) (c2 : w.cell? ⟨bp, 0, none⟩ = some (.slice (some ⟨bs, 0, none⟩) (n + 1) cap)) (c3 : w.cell? ⟨bs, n * 2, none⟩ = some (.int .i64 t)) (hn : n ≤ 1000) :
    Calls Ybaz.prog 36 #[.pointer (some ⟨bc, 0, none⟩)] w fun e w' => e = .returned (.int .i64 t) ∧ Nw w w' := by
  go_enter Ybaz.func36, Ybaz.ntmps36
  go_wp2_with fail
  go_ret
  exact ⟨rfl, Nw.refl _⟩

set_option maxRecDepth 100000 in
set_option maxHeartbeats 1000000 in
theorem stale_any (bc : Nat) (cut : Int) (f : Int × Int) (ms : List (Int × Int)) (w : World) (hm : Marks w bc f ms) (hl : ms.length ≤ 300) (hf : -32768 ≤ f.2 ∧ f.2 ≤ 32767) (hb : ∀ m ∈ ms, -32768 ≤ m.2 ∧ m.2 ≤ 32767) :
    Calls Ybaz.prog 22 #[.pointer (some ⟨bc, 0, none⟩), .int .i64 cut] w fun e w' => e = .returned (.int .i64 (staleOf cut (f :: ms))) ∧ Nw w w' := by
  obtain ⟨c0, c1, hr⟩ := hm
  by_cases hc : f.1 ≤ cut
  · have HT : Hid (staleOf cut (f :: ms) = f.2 + staleOf cut ms) := if_pos hc
    rcases hr with ⟨rfl, c2⟩ | ⟨bp, bs, cap, hne, c2, c3, c4⟩
    · go_enter Ybaz.func22, Ybaz.ntmps22
      go_wp2_with fail
      go_ret
      exact ⟨by rw [HT.out]; simp [staleOf], Nw.refl _⟩
    · have C4 : Hid (∀ i, i < ms.length → w.cell? ⟨bs, i * 2, none⟩ = some (.int .i64 (ms.getD i (0, 0)).1) ∧ w.cell? ⟨bs, i * 2 + 1, none⟩ = some (.int .i64 (ms.getD i (0, 0)).2)) := c4
      have HB : Hid (∀ m ∈ ms, -32768 ≤ m.2 ∧ m.2 ≤ 32767) := hb
      clear c4 hb
      generalize hT : staleOf cut (f :: ms) = T at HT ⊢
      clear hT
      obtain ⟨len, hlen⟩ : ∃ len, len = ms.length := ⟨_, rfl⟩
      rw [← hlen] at c3
      have HL : Hid (len = ms.length) := hlen
      have hl' : len ≤ 300 := by omega
      clear hlen hl
      go_enter Ybaz.func22, Ybaz.ntmps22
      go_wp2_with fail
      go_loopg [5, 32] len (fun kx v5 v32 wr => ∃ (j : Nat) (sm : Int), v32 = .int .i64 j ∧ v5 = .int .i64 sm ∧ j ≤ len ∧ len - j ≤ kx ∧ -32768 * ((j : Int) + 1) ≤ sm ∧ sm ≤ 32768 * ((j : Int) + 1) ∧ Hid (T = sm + staleOf cut (ms.drop j) ∧ Nw w wr))
      case atStart => exact ⟨0, f.2, rfl, rfl, by omega, by omega, by omega, by omega, (show _ ∧ _ from ⟨by rw [HT.out]; rfl, Nw.refl _⟩)⟩
      case round =>
        obtain ⟨j, sm, rfl, rfl, hj, hk, hs0, hs1, HR⟩ := hrel
        by_cases hjl : j < len
        · obtain ⟨m0, m1⟩ := C4.out j (by rw [← HL.out]; exact hjl)
          have d0 := HR.out.2.keep' m0
          have d1 := HR.out.2.keep' m1
          have hjm : j < ms.length := by rw [← HL.out]; exact hjl
          have HD : Hid (staleOf cut (ms.drop j) = if (ms.getD j (0, 0)).1 ≤ cut then (ms.getD j (0, 0)).2 + staleOf cut (ms.drop (j + 1)) else 0) := by
            show staleOf cut (ms.drop j) = _
            rw [drop_getD ms j hjm]
            rfl
          have hbj := HB.out (ms.getD j (0, 0)) (getD_mem ms j hjm)
          clear m0 m1 hjm
          generalize ms.getD j (0, 0) = mj at d0 d1 HD hbj
          obtain ⟨a, b⟩ := mj
          simp only at d0 d1 hbj
          by_cases hac : a ≤ cut
          · have HD' : Hid (staleOf cut (ms.drop j) = b + staleOf cut (ms.drop (j + 1))) := HD.out.trans (if_pos hac)
            clear HD
            go_wp2_with fail
            go_roundg (len - (j + 1))
            case measure => omega
            case rel => exact ⟨j + 1, sm + b, rfl, rfl, by omega, by omega, by omega, by omega, (show _ ∧ _ from ⟨by rw [HR.out.1, HD'.out, Int.add_assoc], HR.out.2.alloc _⟩)⟩
          · have HD' : Hid (staleOf cut (ms.drop j) = 0) := HD.out.trans (if_neg hac)
            clear HD
            have hac' : cut < a := by omega
            go_wp2_with fail
            go_ret
            exact ⟨congrArg (fun x => Ending.returned (Value.int .i64 x)) (show sm = T by rw [HR.out.1, HD'.out, Int.add_zero]), HR.out.2.alloc _⟩
        · obtain rfl : j = len := by omega
          go_wp2_with fail
          go_ret
          exact ⟨by rw [HR.out.1, HL.out]; simp [staleOf], HR.out.2⟩
  · have HT : Hid (staleOf cut (f :: ms) = 0) := if_neg hc
    have hc' : cut < f.1 := by omega
    clear hr
    go_enter Ybaz.func22, Ybaz.ntmps22
    go_wp2_with fail
    go_ret
    exact ⟨congrArg (fun x => Ending.returned (Value.int .i64 x)) HT.out.symm, Nw.refl _⟩
end Go.Proofs.YbulkcbheGreatDoor
