import Derived.Test.Qxb6623459aKtB
import Derived.OwnWalk
import Derived.WalkSpells
namespace Go.Proofs.Qxb6623459a
open Go.RowKit Go.WideShapes
set_option linter.unusedVariables false
namespace Kt

theorem Try.info34 : ((Try.prog.info? 34).map fun i => (i.zero, i.size, i.bytes)) = some (some (.int .u64 0), 1, 8) := by kernel_rfl

/-- A row that is a block: what a cell holds, that it may be written, what a store leaves. -/
theorem row_lt {w : World} {g : Nat} {cur : Array Value} {t : TypeId} (h : w.heap[g]? = some (.cells cur t (0, 0))) : g < w.heap.size := by
  rw [Array.getElem?_eq_some_iff] at h
  exact h.1
theorem row_cell {w : World} {g : Nat} {cur : Array Value} {t : TypeId} (h : w.heap[g]? = some (.cells cur t (0, 0))) (j : Nat) (hj : j < cur.size) : w.cell? ⟨g, j, none⟩ = some cur[j] := by
  rw [cell_of_row w g j cur t (0, 0) h, Array.getElem?_eq_getElem hj]
theorem row_some {w : World} {g : Nat} {cur : Array Value} {t : TypeId} (h : w.heap[g]? = some (.cells cur t (0, 0))) (j : Nat) (hj : j < cur.size) : ∃ u, w.cell? ⟨g, j, none⟩ = some u := ⟨_, row_cell h j hj⟩
theorem row_frozen {w : World} {g : Nat} {cur : Array Value} {t : TypeId} (h : w.heap[g]? = some (.cells cur t (0, 0))) (j : Nat) : w.frozen? ⟨g, j, none⟩ = false := frozen_of_row w g j cur t h
theorem row_set {w : World} {g : Nat} {cur : Array Value} {t : TypeId} (h : w.heap[g]? = some (.cells cur t (0, 0))) (j : Nat) (u : Value) : (w.setCell ⟨g, j, none⟩ u).heap[g]? = some (.cells (cur.setIfInBounds j u) t (0, 0)) := heap_setCell_same w g j cur t u h

theorem made_heap {w w1 : World} {base g n e size : Nat} {xs : List Value} (h : w1.ownsRow base e size (.slice (some ⟨g, 0, none⟩) n n) n xs) : ∃ cur, w1.heap[g]? = some (.cells cur e (0, 0)) ∧ cur.size = n * size := by
  obtain ⟨h1, h2⟩ := h
  rcases h2 with ⟨h2, _⟩ | ⟨g', cap, cur, hv, hg, hh, _, _, hs, ht⟩
  · cases h2
  · simp only [Value.slice.injEq, Option.some.injEq, Addr.mk.injEq, and_true, true_and] at hv
    obtain ⟨rfl, rfl⟩ := hv
    exact ⟨cur, hh, hs⟩

set_option maxHeartbeats 1000000 in
theorem clone7 (a : Option Addr) (n c : Nat) (z : Nat → Int) (w : World) (hn : n ≤ 1048576) (ha : (a = none ∧ n = 0) ∨ ∃ x, a = some x ∧ ∀ i, i < n → w.cell? (x.add i) = some (.int .u64 (z i))) :
    Calls Try.prog 7 #[.slice a n c] w fun e w' => (∃ a' n' c', e = .returned (.slice a' n' c')) ∧ Below w.heap.size w w' := by
  rcases ha with ⟨rfl, rfl⟩ | ⟨⟨b, o, spot⟩, rfl, hc⟩
  · have hnil : ∀ w : World, (binOp .eql 24 (.slice none 0 c) (.slice none 0 0)).run Try.prog w = .ok (.bool true) w := fun w => Lib.run_eql_slice_nil w 24 34 _ _ _ _ _ Try.underlying24
    go_enter Try.func7, Try.ntmps7
    go_wp2
    go_ret
    exact ⟨⟨_, _, _, rfl⟩, Below.refl _ _⟩
  · obtain ⟨i0, hi, hy0, hy1, hy2⟩ := info_parts Try.info34
    have hnil : ∀ w : World, (binOp .eql 24 (.slice (some ⟨b, o, spot⟩) n c) (.slice none 0 0)).run Try.prog w = .ok (.bool false) w := fun w => Lib.run_eql_slice_nil w 24 34 _ _ _ _ _ Try.underlying24
    have HC := hid hc
    clear hc
    go_enter Try.func7, Try.ntmps7
    go_wp2_with (at_make; refine wpList_make_full _ rfl _ _ 24 rfl w.heap.size 34 i0 (.int .u64 0) 1 Try.underlying24 hi hy0 hy1 _ _ _ _ n rfl rfl rfl rfl ?b2 ?b3 (Nat.le_refl _) ?_)
    case b2 => rw [hy2]; omega
    case b3 => unfold maxLen; omega
    intro w1 hown1 hgrow1
    obtain ⟨cur, hh, hs⟩ := made_heap (w := w) hown1
    have hb1 : Below w.heap.size w w1 := (Below.refl _ _).grown hgrow1 (Nat.le_refl _) (fun k h => by cases h)
    have HH := hid hh
    have HSZ := hid hs
    clear hown1 hgrow1 hh hs
    go_wp2
    go_loopw [4] (fun i wr => ∃ (k : Nat) (cur : Array Value), k ≤ n ∧ i = .int .i64 k ∧ wr.heap[w.heap.size]? = some (.cells cur 34 (0, 0)) ∧ cur.size = n ∧ Below w.heap.size w wr) (fun i _ => n - (intOf i).toNat)
    case atStart => exact ⟨0, cur, Nat.zero_le _, rfl, HH.out, by have := HSZ.out; omega, hb1⟩
    case round =>
      obtain ⟨k, cu, hk, rfl, hh, hs, hbr⟩ := hrel
      by_cases hlt : k < n
      · have hspot : spot = none := by simpa [Addr.add] using World.cell?_spot (HC.out 0 (by omega))
        subst hspot
        have hc0 := HC.out k hlt
        rw [add_plain] at hc0
        have hbl : b < w.heap.size := World.block_lt_of_cell? w _ hc0
        have hc1 : wr.cell? ⟨b, o + k, none⟩ = some (.int .u64 (z k)) := (hbr.cell (by exact hbl)).trans hc0
        obtain ⟨x, hc2⟩ := row_some hh k (by omega)
        have hc3 := row_frozen hh k
        have HR := hid (row_set hh k (.int .u64 (z k)))
        have HS2 := hid hs
        clear hh hs hc0
        go_wp2
        go_roundw
        case rel => exact ⟨k + 1, _, by omega, by go_num, HR.out, by simp; exact HS2.out, hbr.setCell (Nat.le_refl _) _⟩
        case measure => simp [intOf]; omega
      · go_wp2
        go_ret
        exact ⟨⟨_, _, _, rfl⟩, hbr⟩
end Kt
end Go.Proofs.Qxb6623459a
