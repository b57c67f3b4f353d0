import Derived.Test.YbulkcbigOwnB
import Derived.Deep.MidRow
import Derived.Laws.CopyRow
import Derived.Laws.IdiomCopy
namespace Go.Proofs.Ybulkcbig
open Go.RowKit
set_option linter.unusedVariables false

/-- A slice of bytes that lies in block g from its beginning on. -/
structure Src (w : World) (g : Nat) (cp : Nat) (ss : List Int) : Prop where
  cell : ∀ j, j < ss.length → w.cell? ⟨g, j, none⟩ = some (.int .u8 (ss.getD j 0))
  cap : ss.length ≤ cp
  lim : cp ≤ maxLen

theorem Src.below {B : Nat} {w w' : World} {g cp : Nat} {ss : List Int} (h : Src w g cp ss) (hg : g < B) (hb : Below B w w') : Src w' g cp ss :=
  ⟨fun j hj => by rw [hb.cell (p := ⟨g, j, none⟩) hg]; exact h.cell j hj, h.cap, h.lim⟩

/-- The part from a to b. -/
def cut (ss : List Int) (a b : Nat) : List Int := (ss.drop a).take (b - a)
theorem cut_len (ss : List Int) (a b : Nat) (h : a ≤ b) (hb : b ≤ ss.length) : (cut ss a b).length = b - a := by
  simp [cut]; omega
theorem cut_get (ss : List Int) (a b j : Nat) (hj : j < b - a) (hb : b ≤ ss.length) : (cut ss a b)[j]? = some (ss.getD (a + j) 0) := by
  have h1 : a + j < ss.length := by omega
  simp [cut, hj, List.getElem?_drop, List.getD_eq_getElem?_getD, List.getElem?_eq_getElem h1]
theorem Src.range {w : World} {g cp : Nat} {ss : List Int} (h : Src w g cp ss) (a b : Nat) (hb : b ≤ ss.length) : w.rangeAt g a ((cut ss a b).map (Value.int .u8)) := by
  intro j v hv
  rw [List.getElem?_map, Option.map_eq_some_iff] at hv
  obtain ⟨x, hx, rfl⟩ := hv
  have hj : j < b - a := by
    have := (List.getElem?_eq_some_iff.1 hx).1
    simp [cut] at this
    omega
  rw [cut_get ss a b j hj hb] at hx
  obtain rfl := Option.some.inj hx
  exact h.cell (a + j) (by omega)

theorem at16 (ad : Addr) (c : Nat) (w : World) : (Instr.arrayAt 54 (.slice (some ad) 16 c)).run Yba.prog w = .ok (.pointer (some ad)) w := by
  simp [Instr.arrayAt, run_underlying Yba.underlying54]

/-- The sixteen cells are written. -/
theorem put16 (w : World) (g N : Nat) (cs : List Value) (hl : cs.length = 16) (h1 : ∀ v ∈ cs, v.oneCell' = true) (cur : Array Value) (hg : w.heap[g]? = some (.cells cur 5 (0, 0))) (ho : N + 16 ≤ cur.size) :
    w.setCells g N cs = w.setRow g (cur.toList.take N ++ cs ++ cur.toList.drop (N + 16)).toArray := by
  have h := run_storeCells_at (P := Yba.prog) g N 5 cs 0 cur w hg (by omega) h1
  have hc : ∀ j, j < cs.length → (w.cell? ⟨g, N + 0 + j, none⟩).isSome = true := by
    intro j hj
    have : N + 0 + j < cur.size := by omega
    have h5 := cell_of_row w g (N + 0 + j) cur 5 (0, 0) hg
    rw [h5, Array.getElem?_eq_getElem this]
    rfl
  have h2 := run_storeCells_cells (P := Yba.prog) g N cs 0 w hc (fun j _ => by simp [World.frozen?, hg]) h1
  rw [h] at h2
  simp only [Nat.add_zero, hl] at h2
  injection h2 with _ h3
  exact h3.symm

set_option maxRecDepth 100000 in
set_option maxHeartbeats 3200000 in
theorem apb_fast (g cap gs cp N M : Nat) (a b : Nat) (w : World) (hcm : cap ≤ maxLen) (hcap : M ≤ cp) (hlim : cp ≤ maxLen)
    (hab : a < b) (hb : b ≤ M) (h16 : b ≤ a + 16) (hs16 : a + 16 ≤ M) (hd16 : N + 16 ≤ cap) (c0 c1 c2 c3 c4 c5 c6 c7 c8 c9 c10 c11 c12 c13 c14 c15 : Int) (o0 o1 o2 o3 o4 o5 o6 o7 o8 o9 o10 o11 o12 o13 o14 o15 : Value)
    (l0 : w.cell? ⟨gs, a, none⟩ = some (.int .u8 c0)) (s0 : w.cell? ⟨g, N, none⟩ = some o0)
    (l1 : w.cell? ⟨gs, a + 1, none⟩ = some (.int .u8 c1)) (s1 : w.cell? ⟨g, N + 1, none⟩ = some o1)
    (l2 : w.cell? ⟨gs, a + 2, none⟩ = some (.int .u8 c2)) (s2 : w.cell? ⟨g, N + 2, none⟩ = some o2)
    (l3 : w.cell? ⟨gs, a + 3, none⟩ = some (.int .u8 c3)) (s3 : w.cell? ⟨g, N + 3, none⟩ = some o3)
    (l4 : w.cell? ⟨gs, a + 4, none⟩ = some (.int .u8 c4)) (s4 : w.cell? ⟨g, N + 4, none⟩ = some o4)
    (l5 : w.cell? ⟨gs, a + 5, none⟩ = some (.int .u8 c5)) (s5 : w.cell? ⟨g, N + 5, none⟩ = some o5)
    (l6 : w.cell? ⟨gs, a + 6, none⟩ = some (.int .u8 c6)) (s6 : w.cell? ⟨g, N + 6, none⟩ = some o6)
    (l7 : w.cell? ⟨gs, a + 7, none⟩ = some (.int .u8 c7)) (s7 : w.cell? ⟨g, N + 7, none⟩ = some o7)
    (l8 : w.cell? ⟨gs, a + 8, none⟩ = some (.int .u8 c8)) (s8 : w.cell? ⟨g, N + 8, none⟩ = some o8)
    (l9 : w.cell? ⟨gs, a + 9, none⟩ = some (.int .u8 c9)) (s9 : w.cell? ⟨g, N + 9, none⟩ = some o9)
    (l10 : w.cell? ⟨gs, a + 10, none⟩ = some (.int .u8 c10)) (s10 : w.cell? ⟨g, N + 10, none⟩ = some o10)
    (l11 : w.cell? ⟨gs, a + 11, none⟩ = some (.int .u8 c11)) (s11 : w.cell? ⟨g, N + 11, none⟩ = some o11)
    (l12 : w.cell? ⟨gs, a + 12, none⟩ = some (.int .u8 c12)) (s12 : w.cell? ⟨g, N + 12, none⟩ = some o12)
    (l13 : w.cell? ⟨gs, a + 13, none⟩ = some (.int .u8 c13)) (s13 : w.cell? ⟨g, N + 13, none⟩ = some o13)
    (l14 : w.cell? ⟨gs, a + 14, none⟩ = some (.int .u8 c14)) (s14 : w.cell? ⟨g, N + 14, none⟩ = some o14)
    (l15 : w.cell? ⟨gs, a + 15, none⟩ = some (.int .u8 c15)) (s15 : w.cell? ⟨g, N + 15, none⟩ = some o15)
    (hf : ∀ o, w.frozen? ⟨g, o, none⟩ = false) :
    Calls Yba.prog 21 #[.slice (some ⟨g, 0, none⟩) N cap, .slice (some ⟨gs, 0, none⟩) M cp, .int .i64 a, .int .i64 b] w fun e w' =>
      e = .returned (.slice (some ⟨g, 0, none⟩) (N + (b - a)) cap) ∧ w' = (w.setCells g N [.int .u8 c0, .int .u8 c1, .int .u8 c2, .int .u8 c3, .int .u8 c4, .int .u8 c5, .int .u8 c6, .int .u8 c7, .int .u8 c8, .int .u8 c9, .int .u8 c10, .int .u8 c11, .int .u8 c12, .int .u8 c13, .int .u8 c14, .int .u8 c15]).drew := by
  have hA1 := at16 ⟨gs, a, none⟩ (cp - a) w.drew
  have hA2 := at16 ⟨g, N, none⟩ (cap - N) w.drew
  unfold maxLen at hcm hlim
  have hw1 : IntKind.i64.wrap ((N : Int) + 16) = (N : Int) + 16 := by rw [IntKind.wrap_i64]; omega
  have hw2 : IntKind.i64.wrap ((a : Int) + 16) = (a : Int) + 16 := by rw [IntKind.wrap_i64]; omega
  have hne1 : (cap = N) = False := by simp; omega
  have hne2 : (cp = a) = False := by simp; omega
  have hz1 : (0 ≤ (N : Int) + 16) = True := by simp; omega
  have hz2 : (0 ≤ (a : Int) + 16) = True := by simp; omega
  have hle1 : ((N : Int) + 16 ≤ (cap : Int)) = True := by simp; omega
  have hle2 : ((a : Int) + 16 ≤ (cp : Int)) = True := by simp; omega
  have ht1 : ((N : Int) + 16).toNat = N + 16 := by omega
  have ht2 : ((a : Int) + 16).toNat = a + 16 := by omega
  go_enter Yba.func21, Yba.ntmps21
  go_wp2
  go_region
  go_wp2
  go_ret
  exact ⟨rfl, rfl⟩
end Go.Proofs.Ybulkcbig
