import Derived.Test.YbulkcbheGreatDoorOvr
import Derived.Test.YbulkcbheGreatDoorLiv
import Derived.Test.YbulkcbheGreatDoorOvs
import Derived.Test.YbulkcbheGreatDoorEng
import Derived.Test.YbulkcbheGreatDoorSta
namespace Go.Proofs.YbulkcbheGreatDoor
open Go.RowKit
set_option linter.unusedVariables false
set_option linter.unusedSimpArgs false

def lastAt (t : Int) (ms : List (Int × Int)) : Int := match ms.getLast? with
  | none => t
  | some m => m.1
theorem lastAt_nil (t : Int) : lastAt t [] = t := rfl
theorem lastAt_snoc (t : Int) (ms : List (Int × Int)) (m : Int × Int) : lastAt t (ms ++ [m]) = m.1 := by simp [lastAt]
def tot : List (Int × Int) → Int
  | [] => 0
  | m :: ms => m.2 + tot ms
theorem tot_snoc (ms : List (Int × Int)) (m : Int × Int) : tot (ms ++ [m]) = tot ms + m.2 := by
  induction ms with
  | nil => simp [tot]
  | cons x xs ih => simp only [List.cons_append, tot, ih]; omega
theorem stale_snoc (cut : Int) (ms : List (Int × Int)) (t v : Int) (h : ∀ m ∈ ms, m.1 ≤ t) : staleOf cut (ms ++ [(t, v)]) = staleOf cut ms + if t ≤ cut then v else 0 := by
  induction ms with
  | nil => simp [staleOf]
  | cons x xs ih =>
    have hx := h x (List.mem_cons_self ..)
    have ih' := ih (fun m hm => h m (List.mem_cons_of_mem _ hm))
    simp only [List.cons_append, staleOf, ih']
    by_cases h1 : x.1 ≤ cut
    · rw [if_pos h1, if_pos h1]; omega
    · rw [if_neg h1, if_neg h1, if_neg (show ¬ t ≤ cut by omega)]; rfl
theorem stale_rng (cut : Int) (ms : List (Int × Int)) (h : ∀ m ∈ ms, -32768 ≤ m.2 ∧ m.2 ≤ 32767) : -32768 * (ms.length : Int) ≤ staleOf cut ms ∧ staleOf cut ms ≤ 32768 * (ms.length : Int) := by
  induction ms with
  | nil => simp [staleOf]
  | cons x xs ih =>
    have hx := h x (List.mem_cons_self ..)
    have ih' := ih (fun m hm => h m (List.mem_cons_of_mem _ hm))
    simp only [staleOf, List.length_cons]
    by_cases h1 : x.1 ≤ cut
    · rw [if_pos h1]; push_cast; omega
    · rw [if_neg h1]; push_cast; omega

theorem Marks.nw {w w' : World} {bc : Nat} {f : Int × Int} {ms : List (Int × Int)} (h : Marks w bc f ms) (k : Nw w w') : Marks w' bc f ms := by
  obtain ⟨h0, h1, h2⟩ := h
  refine ⟨k.keep h0, k.keep h1, ?_⟩
  rcases h2 with ⟨h2, h3⟩ | ⟨bp, bs, cap, h2, h3, h4, h5⟩
  · exact .inl ⟨h2, k.keep h3⟩
  · exact .inr ⟨bp, bs, cap, h2, k.keep h3, k.keep h4, fun i hi => ⟨k.keep (h5 i hi).1, k.keep (h5 i hi).2⟩⟩

theorem newest_any (bc : Nat) (f : Int × Int) (ms : List (Int × Int)) (w : World) (hm : Marks w bc f ms) (hl : ms.length ≤ 300) :
    Calls Ybaz.prog 36 #[.pointer (some ⟨bc, 0, none⟩)] w fun e w' => e = .returned (.int .i64 (lastAt f.1 ms)) ∧ Nw w w' := by
  obtain ⟨h0, h1, ⟨rfl, h3⟩ | ⟨bp, bs, cap, h2, h3, h4, h5⟩⟩ := hm
  · exact newest_none bc f.1 w h0 h3
  · obtain ⟨xs, x, rfl⟩ : ∃ xs x, ms = xs ++ [x] := ⟨ms.dropLast, ms.getLast h2, (List.dropLast_concat_getLast h2).symm⟩
    rw [lastAt_snoc]
    have h6 := (h5 xs.length (by simp)).1
    refine newest_some bc bp bs cap xs.length x.1 w h3 (by simpa using h4) (by simpa using h6) (by simp at hl; omega)

theorem cutoff_is (be : Nat) (obs n s : Int) (w : World) (h0 : 0 ≤ n) (h1 : n < 1000000000) (hs1 : -3 ≤ s) (hs2 : s ≤ 3) (ho0 : 0 ≤ obs) (ho1 : obs ≤ 5000000000)
    (e0 : w.cell? ⟨be, 18, none⟩ = some (.int .u64 0)) (e1 : w.cell? ⟨be, 19, none⟩ = some (.int .i64 0)) (e2 : w.cell? ⟨be, 20, none⟩ = some (.pointer none)) (e3 : w.cell? ⟨be, 7, none⟩ = some (.int .i64 obs)) :
    Calls Ybaz.prog 23 #[.pointer (some ⟨be, 0, none⟩), .agg #[.int .u64 n, .int .i64 s, .pointer none]] w fun e w' => e = .returned (.int .i64 (s * 1000000000 + n - obs)) ∧ Nw w w' := by
  obtain ⟨x, hx⟩ : ∃ x, x = s * 1000000000 + n - obs := ⟨_, rfl⟩
  have := cutoff_any be obs n s (x % 1000000000) (x / 1000000000) w h0 h1 hs1 hs2 ho0 ho1 (by omega) (by omega) (by omega) e0 e1 e2 e3
  rw [show x / 1000000000 * 1000000000 + x % 1000000000 = s * 1000000000 + n - obs by omega] at this
  exact this

/-- What State answers where no list holds the address, one client is scored and none is banned. -/
theorem score_state (be bm1 bm2 bc : Nat) (l0 l1 l2 : Addr) (obs n0 s0 n2 s2 a b c d d' lo sc : Int) (f : Int × Int) (ms : List (Int × Int)) (p4 : Addr) (w : World) (hz : Zs w p4)
    (ha0 : 0 ≤ a) (ha : a ≤ 255) (hb0 : 0 ≤ b) (hb : b ≤ 255) (hc0 : 0 ≤ c) (hc : c ≤ 255) (hd0 : 0 ≤ d) (hd : d ≤ 255) (hlo : lo = 281470681743360 + a * 16777216 + b * 65536 + c * 256 + d)
    (hn00 : 0 ≤ n0) (hn01 : n0 < 1000000000) (hs00 : -3 ≤ s0) (hs01 : s0 ≤ 3) (hn20 : 0 ≤ n2) (hn21 : n2 < 1000000000) (hs20 : -3 ≤ s2) (hs21 : s2 ≤ 3) (ho0 : 0 ≤ obs) (ho1 : obs ≤ 5000000000)
    (HE : w.heap[be]? = some (.cells (engc obs n0 s0 bm1 l0 l1 bm2 l2 (.pointer none) (.pointer none)) 63 (0, 0))) (HM2 : w.heap[bm2]? = some (.map #[] 0))
    (HM1 : w.heap[bm1]? = some (.map #[⟨.agg (kc a b c d'), .pointer (some ⟨bc, 0, none⟩), 0⟩] 1))
    (HMk : Marks w bc f ms) (hsc : w.cell? ⟨bc, 16, none⟩ = some (.int .i64 sc)) (hl : ms.length ≤ 300) (hf : -32768 ≤ f.2 ∧ f.2 ≤ 32767) (hbm : ∀ m ∈ ms, -32768 ≤ m.2 ∧ m.2 ≤ 32767) (b0 : -100000000 ≤ sc) (b1 : sc ≤ 100000000) :
    Calls Ybaz.prog 8 #[.pointer (some ⟨be, 0, none⟩), .agg #[.int .u64 n2, .int .i64 s2, .pointer none], .agg #[.int .u64 0, .int .u64 lo, .pointer (some p4)]] w fun e w' =>
      e = .returned (.agg #[.int .i64 (if d = d' ∧ s0 * 1000000000 + n0 - obs < lastAt f.1 ms then sc - staleOf (s2 * 1000000000 + n2 - obs) (f :: ms) else 0), .bool false, .int .u64 0, .int .i64 0, .pointer none, .bool false, .bool false]) ∧ Nw w w' := by
  have E := fun (w' : World) (h : Nw w w') => blk_cell (blk_nw HE h)
  have HL : Hid (∀ w', Nw w w' → Calls Ybaz.prog 18 #[.pointer (some ⟨be, 0, none⟩), .agg #[.int .u64 0, .int .u64 lo, .pointer (some p4)]] w' fun e w'' => e = .returned (.tuple #[.bool false, .bool false]) ∧ Nw w' w'') :=
    fun w' h => listed_any be lo p4 (.pointer none) (.pointer none) false false w' (E w' h 32) (E w' h 33) (fun w'' k => contains_nil lo p4 w'') (fun w'' k => contains_nil lo p4 w'')
  have HC : Hid (∀ w', Nw w w' → Calls Ybaz.prog 20 #[.pointer (some ⟨be, 24, none⟩), .agg (kc a b c d)] w' fun e w'' => e = .returned (if d = d' then .pointer (some ⟨bc, 0, none⟩) else .pointer none) ∧ Nw w' w'') :=
    fun w' h => getClient_any be 24 bm1 a b c d _ w' (E w' h 24) (fun w'' k => look44_one bm1 1 0 a b c d d' _ w'' (blk_nw HM1 (h.trans k)))
  have HG : Hid (∀ w', Nw w w' → Calls Ybaz.prog 24 #[.pointer (some ⟨be, 28, none⟩), .agg (kc a b c d)] w' fun e w'' => e = .returned (.pointer none) ∧ Nw w' w'') :=
    fun w' h => getBan_any be 28 bm2 a b c d _ w' (E w' h 28) (fun w'' k => look56_none bm2 0 a b c d w'' (blk_nw HM2 (h.trans k)))
  have HT : Hid (∀ w', Nw w w' → Calls Ybaz.prog 25 #[.pointer (some ⟨be, 0, none⟩), .pointer none, .agg #[.int .u64 n2, .int .i64 s2, .pointer none]] w' fun e w'' => e = .returned (.bool false) ∧ Nw w' w'') := fun w' h => lasting_nil be n2 s2 w'
  by_cases hd' : d = d'
  · have HO : Hid (∀ w', Nw w w' → Calls Ybaz.prog 21 #[.pointer (some ⟨be, 0, none⟩), .pointer (some ⟨bc, 0, none⟩)] w' fun e w'' => e = .returned (.bool (decide (lastAt f.1 ms ≤ s0 * 1000000000 + n0 - obs))) ∧ Nw w' w'') := fun w' h =>
      over_any be bc _ _ n0 s0 w' (E w' h 21) (E w' h 22) (E w' h 23) (fun w'' k => newest_any bc f ms w'' (HMk.nw (h.trans k)) hl) (fun w'' k => cutoff_is be obs n0 s0 w'' hn00 hn01 hs00 hs01 ho0 ho1 (E w'' (h.trans k) 18) (E w'' (h.trans k) 19) (E w'' (h.trans k) 20) (E w'' (h.trans k) 7)) (fun w'' k => isAside_nil be _ w'' (E w'' (h.trans k) 27))
    rw [if_pos hd'] at HC
    by_cases hov : lastAt f.1 ms ≤ s0 * 1000000000 + n0 - obs
    · rw [decide_eq_true hov] at HO
      rw [if_neg (show ¬ (d = d' ∧ s0 * 1000000000 + n0 - obs < lastAt f.1 ms) from fun h => by omega)]
      exact state_over be bc n2 s2 lo a b c d p4 w hz ha0 ha hb0 hb hc0 hc hd0 hd hlo HL HC HO HG HT
    · rw [decide_eq_false hov] at HO
      rw [if_pos (show d = d' ∧ s0 * 1000000000 + n0 - obs < lastAt f.1 ms from ⟨hd', by omega⟩)]
      have hr := stale_rng (s2 * 1000000000 + n2 - obs) (f :: ms) (fun m hm => by
        rcases List.mem_cons.1 hm with rfl | hm
        · exact hf
        · exact hbm m hm)
      simp only [List.length_cons] at hr
      have HU : Hid (∀ w', Nw w w' → Calls Ybaz.prog 23 #[.pointer (some ⟨be, 0, none⟩), .agg #[.int .u64 n2, .int .i64 s2, .pointer none]] w' fun e w'' => e = .returned (.int .i64 (s2 * 1000000000 + n2 - obs)) ∧ Nw w' w'') := fun w' h => cutoff_is be obs n2 s2 w' hn20 hn21 hs20 hs21 ho0 ho1 (E w' h 18) (E w' h 19) (E w' h 20) (E w' h 7)
      have HS : Hid (∀ w', Nw w w' → Calls Ybaz.prog 22 #[.pointer (some ⟨bc, 0, none⟩), .int .i64 (s2 * 1000000000 + n2 - obs)] w' fun e w'' => e = .returned (.int .i64 (staleOf (s2 * 1000000000 + n2 - obs) (f :: ms))) ∧ Nw w' w'') := fun w' h => stale_any bc _ f ms w' (HMk.nw h) hl hf hbm
      exact state_live be bc n2 s2 lo a b c d sc _ _ p4 w hz ha0 ha hb0 hb hc0 hc hd0 hd hlo HL HC HO HU HS hsc b0 b1 (by omega) (by omega)
  · rw [if_neg hd'] at HC
    rw [if_neg (fun h => hd' h.1)]
    exact state_ban be n2 s2 lo a b c d p4 _ false 0 0 0 w hz ha0 ha hb0 hb hc0 hc hd0 hd hlo HL HC HG HT (fun h => by cases h) (fun _ => ⟨rfl, rfl⟩)
end Go.Proofs.YbulkcbheGreatDoor
