import Derived.Test.YbulkcbheGreatDoorEng
import Derived.Test.YbulkcbheGreatDoorSta
namespace Go.Proofs.YbulkcbheGreatDoor
open Go.RowKit
set_option linter.unusedVariables false
set_option linter.unusedSimpArgs false
/-- A ban's cells. -/
def banc (x y z u n s : Int) : Array Value :=
  #[.int .u8 0, .int .u8 0, .int .u8 0, .int .u8 0, .int .u8 0, .int .u8 0, .int .u8 0, .int .u8 0, .int .u8 0, .int .u8 0, .int .u8 255, .int .u8 255, .int .u8 x, .int .u8 y, .int .u8 z, .int .u8 u, .int .u64 n, .int .i64 s, .pointer none, .int .i64 1000000000]

/-- What State answers where the lists do not hold the address, no client is scored, and one ban is held. -/
theorem ban_state (be bm1 bm2 bb : Nat) (l0 l1 l2 : Addr) (sl bl : Value) (obs n0 s0 n1 s1 n2 s2 a b c d d' lo : Int) (p4 : Addr) (w : World) (hz : Zs w p4)
    (ha0 : 0 ≤ a) (ha : a ≤ 255) (hb0 : 0 ≤ b) (hb : b ≤ 255) (hc0 : 0 ≤ c) (hc : c ≤ 255) (hd0 : 0 ≤ d) (hd : d ≤ 255) (hlo : lo = 281470681743360 + a * 16777216 + b * 65536 + c * 256 + d)
    (hn00 : 0 ≤ n0) (hn01 : n0 < 1000000000) (hn10 : 0 ≤ n1) (hn11 : n1 < 1000000000) (hn20 : 0 ≤ n2) (hn21 : n2 < 1000000000)
    (HE : w.heap[be]? = some (.cells (engc obs n0 s0 bm1 l0 l1 bm2 l2 sl bl) 63 (0, 0))) (HM1 : w.heap[bm1]? = some (.map #[] 0))
    (HM2 : w.heap[bm2]? = some (.map #[⟨.agg (kc a b c d'), .pointer (some ⟨bb, 0, none⟩), 0⟩] 1)) (HBb : w.heap[bb]? = some (.cells (banc a b c d' n1 s1) 81 (0, 0)))
    (hs : ∀ w', Nw w w' → Calls Ybaz.prog 31 #[sl, .agg #[.int .u64 0, .int .u64 lo, .pointer (some p4)]] w' fun e w'' => e = .returned (.bool false) ∧ Nw w' w'')
    (hbl : ∀ w', Nw w w' → Calls Ybaz.prog 31 #[bl, .agg #[.int .u64 0, .int .u64 lo, .pointer (some p4)]] w' fun e w'' => e = .returned (.bool false) ∧ Nw w' w'')
    (r : Bool) (hr : r = (decide (d = d') && (decide (s2 * 1000000000 + n2 < s1 * 1000000000 + n1) && decide (s0 * 1000000000 + n0 < s1 * 1000000000 + n1)))) :
    Calls Ybaz.prog 8 #[.pointer (some ⟨be, 0, none⟩), .agg #[.int .u64 n2, .int .i64 s2, .pointer none], .agg #[.int .u64 0, .int .u64 lo, .pointer (some p4)]] w fun e w' => e = .returned (.agg #[.int .i64 0, .bool r, .int .u64 (if r then n1 else 0), .int .i64 (if r then s1 else 0), .pointer none, .bool false, .bool false]) ∧ Nw w w' := by
  have E := fun (w' : World) (h : Nw w w') => blk_cell (blk_nw HE h)
  have B := fun (w' : World) (h : Nw w w') => blk_cell (blk_nw HBb h)
  have HL : Hid (∀ w', Nw w w' → Calls Ybaz.prog 18 #[.pointer (some ⟨be, 0, none⟩), .agg #[.int .u64 0, .int .u64 lo, .pointer (some p4)]] w' fun e w'' => e = .returned (.tuple #[.bool false, .bool false]) ∧ Nw w' w'') :=
    fun w' h => listed_any be lo p4 sl bl false false w' (E w' h 32) (E w' h 33) (fun w'' k => hs w'' (h.trans k)) (fun w'' k => hbl w'' (h.trans k))
  have HC : Hid (∀ w', Nw w w' → Calls Ybaz.prog 20 #[.pointer (some ⟨be, 24, none⟩), .agg (kc a b c d)] w' fun e w'' => e = .returned (.pointer none) ∧ Nw w' w'') :=
    fun w' h => getClient_any be 24 bm1 a b c d (.pointer none) w' (E w' h 24) (fun w'' k => look44_none bm1 0 a b c d w'' (blk_nw HM1 (h.trans k)))
  have HG : Hid (∀ w', Nw w w' → Calls Ybaz.prog 24 #[.pointer (some ⟨be, 28, none⟩), .agg (kc a b c d)] w' fun e w'' => e = .returned (if d = d' then .pointer (some ⟨bb, 0, none⟩) else .pointer none) ∧ Nw w' w'') :=
    fun w' h => getBan_any be 28 bm2 a b c d _ w' (E w' h 28) (fun w'' k => look56_one bm2 1 0 a b c d d' _ w'' (blk_nw HM2 (h.trans k)))
  by_cases hd' : d = d'
  · have HT : Hid (∀ w', Nw w w' → Calls Ybaz.prog 25 #[.pointer (some ⟨be, 0, none⟩), (if d = d' then .pointer (some ⟨bb, 0, none⟩) else .pointer none), .agg #[.int .u64 n2, .int .i64 s2, .pointer none]] w' fun e w'' => e = .returned (.bool r) ∧ Nw w' w'') := fun w' h => by
      rw [if_pos hd', hr, decide_eq_true hd', Bool.true_and]
      exact lasting_any be bb n2 s2 n1 s1 n0 s0 w' hn20 hn21 hn10 hn11 hn00 hn01 (B w' h 16) (B w' h 17) (B w' h 18) (E w' h 21) (E w' h 22) (E w' h 23)
    refine state_ban be n2 s2 lo a b c d p4 _ r bb _ _ w hz ha0 ha hb0 hb hc0 hc hd0 hd hlo HL HC HG HT ?_ ?_
    · intro h
      subst h
      rw [if_pos hd']
      exact ⟨rfl, B w (Nw.refl w) 16, B w (Nw.refl w) 17, B w (Nw.refl w) 18⟩
    · intro h
      subst h
      exact ⟨rfl, rfl⟩
  · have hr0 : r = false := by rw [hr, decide_eq_false hd', Bool.false_and]
    subst hr0
    have HT : Hid (∀ w', Nw w w' → Calls Ybaz.prog 25 #[.pointer (some ⟨be, 0, none⟩), (if d = d' then .pointer (some ⟨bb, 0, none⟩) else .pointer none), .agg #[.int .u64 n2, .int .i64 s2, .pointer none]] w' fun e w'' => e = .returned (.bool false) ∧ Nw w' w'') := fun w' h => by
      rw [if_neg hd']
      exact lasting_nil be n2 s2 w'
    exact state_ban be n2 s2 lo a b c d p4 _ false bb _ _ w hz ha0 ha hb0 hb hc0 hc hd0 hd hlo HL HC HG HT (fun h => by cases h) (fun _ => ⟨rfl, rfl⟩)
end Go.Proofs.YbulkcbheGreatDoor
