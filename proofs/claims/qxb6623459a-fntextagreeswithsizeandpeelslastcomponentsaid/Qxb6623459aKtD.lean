import Derived.Test.Qxb6623459aKtC
import Derived.BigRegion
namespace Go.Proofs.Qxb6623459a
open Go.RowKit
set_option linter.unusedVariables false
namespace Kt

theorem Try.info37 : ((Try.prog.info? 37).map fun i => (i.zero, i.size, i.bytes)) = some (some (.agg #[.int .i64 0, .int .i64 0, .string ⟨#[]⟩, .int .i64 0]), 4, 40) := by kernel_rfl

def Filled (pz : Nat → Int) (ss : Nat → ByteArray) (sz : Nat → Int) (cur : Array Value) (k : Nat) : Prop :=
  ∀ j, j < k → cur[j * 4]? = some (.int .i64 (pz j)) ∧ cur[j * 4 + 2]? = some (.string (ss j)) ∧ cur[j * 4 + 3]? = some (.int .i64 (sz j))

theorem Filled.succ {pz : Nat → Int} {ss : Nat → ByteArray} {sz : Nat → Int} {cur : Array Value} {k : Nat} (h : Filled pz ss sz cur k) (hs : k * 4 + 3 < cur.size) (t : Value) :
    Filled pz ss sz ((((cur.setIfInBounds (k * 4) (.int .i64 (pz k))).setIfInBounds (k * 4 + 1) t).setIfInBounds (k * 4 + 2) (.string (ss k))).setIfInBounds (k * 4 + 3) (.int .i64 (sz k))) (k + 1) := by
  intro j hj
  by_cases e : j = k
  · subst e
    simp [Array.getElem?_setIfInBounds]
    omega
  · have h' := h j (by omega)
    have e0 : ∀ a b : Nat, a < 4 → b < 4 → ¬ k * 4 + a = j * 4 + b := by intro a b _ _; omega
    have e00 := e0 0 0 (by omega) (by omega)
    have e02 := e0 0 2 (by omega) (by omega)
    have e03 := e0 0 3 (by omega) (by omega)
    simp only [Nat.add_zero] at e00 e02 e03
    have e10 := e0 1 0 (by omega) (by omega)
    have e20 := e0 2 0 (by omega) (by omega)
    have e30 := e0 3 0 (by omega) (by omega)
    simp only [Nat.add_zero] at e10 e20 e30
    simp only [Array.getElem?_setIfInBounds, if_neg e00, if_neg e02, if_neg e03, if_neg e10, if_neg e20, if_neg e30, if_neg (e0 1 2 (by omega) (by omega)), if_neg (e0 1 3 (by omega) (by omega)), if_neg (e0 2 2 (by omega) (by omega)), if_neg (e0 2 3 (by omega) (by omega)), if_neg (e0 3 2 (by omega) (by omega)), if_neg (e0 3 3 (by omega) (by omega))]
    exact h'

/-- A keyTree as the methods read it. -/
structure TreeAt (w : World) (tb pb n : Nat) (pz : Nat → Int) (ss : Nat → ByteArray) (sz : Nat → Int) : Prop where
  paths : w.cell? ⟨tb, 0, none⟩ = some (.slice (some ⟨pb, 0, none⟩) n n)
  par : ∀ j, j < n → w.cell? ⟨pb, j * 4, none⟩ = some (.int .i64 (pz j))
  name : ∀ j, j < n → w.cell? ⟨pb, j * 4 + 2, none⟩ = some (.string (ss j))
  size : ∀ j, j < n → w.cell? ⟨pb, j * 4 + 3, none⟩ = some (.int .i64 (sz j))
  tlt : tb < w.heap.size
  plt : pb < w.heap.size

theorem TreeAt.below {w w' : World} {tb pb n : Nat} {pz : Nat → Int} {ss : Nat → ByteArray} {sz : Nat → Int} (h : TreeAt w tb pb n pz ss sz) {B : Nat} (hB : w.heap.size ≤ B) (hb : Below B w w') : TreeAt w' tb pb n pz ss sz :=
  have ht := h.tlt
  have hp := h.plt
  ⟨(hb.cell (by show tb < B; omega)).trans h.paths, fun j hj => (hb.cell (by show pb < B; omega)).trans (h.par j hj), fun j hj => (hb.cell (by show pb < B; omega)).trans (h.name j hj), fun j hj => (hb.cell (by show pb < B; omega)).trans (h.size j hj), Nat.lt_of_lt_of_le ht hb.size, Nat.lt_of_lt_of_le hp hb.size⟩

set_option maxHeartbeats 1000000 in
theorem new8 (gp gt gn gs n cp ct cn cs : Nat) (pz tz : Nat → Int) (ss : Nat → ByteArray) (sz : Nat → Int) (lb : Int) (lh : ByteArray) (lp : Int) (w : World) (hn1 : 1 ≤ n) (hn2 : n ≤ 1048576)
    (hp : ∀ i, i < n → w.cell? ⟨gp, i, none⟩ = some (.int .i64 (pz i))) (ht : ∀ i, i < n → w.cell? ⟨gt, i, none⟩ = some (.int .i64 (tz i))) (hs : ∀ i, i < n → w.cell? ⟨gn, i, none⟩ = some (.string (ss i))) (hz : ∀ i, i < n → w.cell? ⟨gs, i, none⟩ = some (.int .i64 (sz i)))
    (asl : Option Addr) (nsl csl : Nat) :
    Calls Try.prog 8 #[.slice (some ⟨gp, 0, none⟩) n cp, .slice (some ⟨gt, 0, none⟩) n ct, .slice (some ⟨gn, 0, none⟩) n cn, .slice (some ⟨gs, 0, none⟩) n cs, .slice asl nsl csl, .int .i64 lb, .string lh, .int .i64 lp] w fun e w' => ∃ tb pb, e = .returned (.pointer (some ⟨tb, 0, none⟩)) ∧ TreeAt w' tb pb n pz ss sz ∧ Below w.heap.size w w' := by
  obtain ⟨i0, hi, hy0, hy1, hy2⟩ := info_parts Try.info37
  go_enter Try.func8, Try.ntmps8
  go_wp2_with (at_make; refine wpList_make_full _ rfl _ _ 35 rfl w.heap.size 37 i0 (.agg #[.int .i64 0, .int .i64 0, .string ⟨#[]⟩, .int .i64 0]) 4 Try.underlying35 hi hy0 hy1 _ _ _ _ n rfl rfl rfl rfl ?b2 ?b3 (Nat.le_refl _) ?_)
  case b2 => rw [hy2]; omega
  case b3 => unfold maxLen; omega
  intro w1 hown1 hgrow1
  obtain ⟨cur, hh, hs1⟩ := made_heap (w := w) hown1
  have hb1 : Below w.heap.size w w1 := (Below.refl _ _).grown hgrow1 (Nat.le_refl _) (fun k h => by cases h)
  clear hown1 hgrow1
  have HP := hid hp
  have HT := hid ht
  have HS := hid hs
  have HZ := hid hz
  have hpb : gp < w.heap.size := World.block_lt_of_cell? w _ (hp 0 (by omega))
  have htb : gt < w.heap.size := World.block_lt_of_cell? w _ (ht 0 (by omega))
  have hsb : gn < w.heap.size := World.block_lt_of_cell? w _ (hs 0 (by omega))
  have hzb : gs < w.heap.size := World.block_lt_of_cell? w _ (hz 0 (by omega))
  have HH := hid hh
  have HC := hid hs1
  clear hp ht hs hz hh hs1
  go_wp2
  go_loopw [24] (fun i wr => ∃ (k : Nat) (cur : Array Value), k ≤ n ∧ i = .int .i64 k ∧ wr.heap[w.heap.size]? = some (.cells cur 37 (0, 0)) ∧ cur.size = n * 4 ∧ Filled pz ss sz cur k ∧ Below w.heap.size w wr) (fun i _ => n - (intOf i).toNat)
  case atStart => exact ⟨0, cur, Nat.zero_le _, rfl, HH.out, HC.out, fun j h => by omega, hb1⟩
  case round =>
    obtain ⟨k, cu, hk, rfl, hh, hs, hfi, hbr⟩ := hrel
    have HF := hid hfi
    clear hfi
    by_cases hlt : k < n
    · have c1 : wr.cell? ⟨gp, k, none⟩ = some (.int .i64 (pz k)) := (hbr.cell (by exact hpb)).trans (HP.out k hlt)
      have c2 : wr.cell? ⟨gt, k, none⟩ = some (.int .i64 (tz k)) := (hbr.cell (by exact htb)).trans (HT.out k hlt)
      have c3 : wr.cell? ⟨gn, k, none⟩ = some (.string (ss k)) := (hbr.cell (by exact hsb)).trans (HS.out k hlt)
      have c4 : wr.cell? ⟨gs, k, none⟩ = some (.int .i64 (sz k)) := (hbr.cell (by exact hzb)).trans (HZ.out k hlt)
      obtain ⟨x0, d0⟩ := row_some hh (k * 4) (by omega)
      obtain ⟨x1, d1⟩ := row_some hh (k * 4 + 1) (by omega)
      obtain ⟨x2, d2⟩ := row_some hh (k * 4 + 2) (by omega)
      obtain ⟨x3, d3⟩ := row_some hh (k * 4 + 3) (by omega)
      have f0 := row_frozen hh (k * 4)
      have f1 := row_frozen hh (k * 4 + 1)
      have f2 := row_frozen hh (k * 4 + 2)
      have f3 := row_frozen hh (k * 4 + 3)
      have HR := hid hh
      have HS2 := hid hs
      clear hh hs
      go_wp2
      go_region
      go_wp2
      go_roundw
      case rel => exact ⟨k + 1, _, by omega, by go_num, row_set (row_set (row_set (row_set HR.out _ _) _ _) _ _) _ _, by simp; exact HS2.out, HF.out.succ (by have := HS2.out; omega) _, ((((hbr.setCell (Nat.le_refl _) _).setCell (Nat.le_refl _) _).setCell (Nat.le_refl _) _).setCell (Nat.le_refl _) _).drew⟩
      case measure => simp [intOf]; omega
    · have hkn : k = n := by omega
      have HK := hid hkn
      clear hkn
      have HR := hid hh
      have HS2 := hid hs
      clear hh hs
      have hlt2 : w.heap.size < wr.heap.size := row_lt HR.out
      go_wp2
      go_ret
      refine ⟨wr.heap.size, w.heap.size, rfl, ?_, hbr.alloc (by omega) _⟩
      have hF := HF.out
      rw [HK.out] at hF
      refine ⟨by simp, fun j hj => ?_, fun j hj => ?_, fun j hj => ?_, by simp, by simp; omega⟩
      · rw [World.cell?_alloc_lt (h := hlt2), cell_of_row wr _ _ _ _ _ HR.out]
        exact (hF j hj).1
      · rw [World.cell?_alloc_lt (h := hlt2), cell_of_row wr _ _ _ _ _ HR.out]
        exact (hF j hj).2.1
      · rw [World.cell?_alloc_lt (h := hlt2), cell_of_row wr _ _ _ _ _ HR.out]
        exact (hF j hj).2.2
end Kt
end Go.Proofs.Qxb6623459a
