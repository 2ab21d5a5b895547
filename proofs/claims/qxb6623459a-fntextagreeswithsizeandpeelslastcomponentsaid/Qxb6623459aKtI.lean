import Derived.Test.Qxb6623459aKtH
import Derived.Laws.CopyOwn
namespace Go.Proofs.Qxb6623459a
open Go.RowKit Go.WideShapes
set_option linter.unusedVariables false
namespace Kt

theorem Try.info9 : ((Try.prog.info? 9).map fun i => (i.zero, i.size, i.bytes)) = some (some (.string ⟨#[]⟩), 1, 16) := by kernel_rfl
theorem Try.size3 : (Try.prog.info? 3).map (·.size) = some 1 := by kernel_rfl
theorem Try.size9 : (Try.prog.info? 9).map (·.size) = some 1 := by kernel_rfl

/-- make and copy: a row of the call's own that holds what the source holds. -/
theorem after_copy (dT elem : TypeId) (hu : Try.prog.underlying dT = some (.slice elem)) (hsz : (Try.prog.info? elem).map (·.size) = some 1) (w w1 : World) (ty : TypeId) (n c : Nat) (a : Addr) (xs cs : List Value)
    (hown : w1.ownsRow w.heap.size elem 1 (.slice (some ⟨w.heap.size, 0, none⟩) n n) n xs) (hgrow : w.grownBy w1 none) (hn : cs.length = n) (hsrc : ∀ j v, cs[j]? = some v → w.cell? (a.add j) = some v) (h1 : ∀ v ∈ cs, v.oneCell' = true) :
    ∃ w2, (Builtin.copy_ #[dT, dT] ty #[.slice (some ⟨w.heap.size, 0, none⟩) n n, .slice (some a) n c]).run Try.prog w1 = .ok (goInt n) w2 ∧ (∀ j v, cs[j]? = some v → w2.cell? ⟨w.heap.size, j, none⟩ = some v) ∧ Below w.heap.size w w2 ∧ w.heap.size < w2.heap.size := by
  obtain ⟨cur, hh, hs⟩ := made_heap (w := w) hown
  have hs' : cur.size = n := by omega
  have hb1 : Below w.heap.size w w1 := (Below.refl _ _).grown hgrow (Nat.le_refl _) (fun k h => by cases h)
  have hr := run_copy_row (P := Try.prog) w1 dT dT ty elem w.heap.size 0 n n a n c cur elem cs hu hsz hh (by simp [hn])
    (fun j v hj => by
      have h := hsrc j v hj
      rw [hb1.cell (World.block_lt_of_cell? w _ h)]
      exact h) (by omega) h1
  rw [hn] at hr
  have e : cur.toList.take 0 ++ cs ++ cur.toList.drop (0 + n) = cs := by
    rw [List.drop_of_length_le (by simp; omega)]
    simp
  rw [e] at hr
  have hh2 := setRow_heap w1 w.heap.size cur cs.toArray elem (0, 0) hh
  refine ⟨_, hr, fun j v hj => ?_, below_setRow hb1 (Nat.le_refl _) _, ?_⟩
  · rw [cell_of_row _ _ _ _ _ _ hh2]
    simpa using hj
  · rw [Array.getElem?_eq_some_iff] at hh2
    exact hh2.1

/-- A slice of ints that came in. -/
def InI (w : World) (a : Option Addr) (n : Nat) (z : Nat → Int) : Prop := (a = none ∧ n = 0) ∨ ∃ x, a = some x ∧ ∀ i, i < n → w.cell? (x.add i) = some (.int .i64 (z i))
/-- A slice of ints of the call's own (nothing is said of an empty one). -/
def OwnI (w : World) (a : Option Addr) (n : Nat) (z : Nat → Int) : Prop := 0 < n → ∃ g, a = some ⟨g, 0, none⟩ ∧ ∀ i, i < n → w.cell? ⟨g, i, none⟩ = some (.int .i64 (z i))
def InS (w : World) (a : Option Addr) (n : Nat) (z : Nat → ByteArray) : Prop := (a = none ∧ n = 0) ∨ ∃ x, a = some x ∧ ∀ i, i < n → w.cell? (x.add i) = some (.string (z i))
def OwnS (w : World) (a : Option Addr) (n : Nat) (z : Nat → ByteArray) : Prop := 0 < n → ∃ g, a = some ⟨g, 0, none⟩ ∧ ∀ i, i < n → w.cell? ⟨g, i, none⟩ = some (.string (z i))

theorem OwnI.below {w w' : World} {a : Option Addr} {n : Nat} {z : Nat → Int} (h : OwnI w a n z) (hb : Below w.heap.size w w') : OwnI w' a n z := fun hn => by
  obtain ⟨g, ha, hc⟩ := h hn
  exact ⟨g, ha, fun i hi => (hb.cell (World.block_lt_of_cell? w _ (hc i hi))).trans (hc i hi)⟩
theorem OwnS.below {w w' : World} {a : Option Addr} {n : Nat} {z : Nat → ByteArray} (h : OwnS w a n z) (hb : Below w.heap.size w w') : OwnS w' a n z := fun hn => by
  obtain ⟨g, ha, hc⟩ := h hn
  exact ⟨g, ha, fun i hi => (hb.cell (World.block_lt_of_cell? w _ (hc i hi))).trans (hc i hi)⟩
theorem InI.below {B : Nat} {w w' : World} {a : Option Addr} {n : Nat} {z : Nat → Int} (h : InI w a n z) (hB : w.heap.size ≤ B) (hb : Below B w w') : InI w' a n z := by
  rcases h with h | ⟨x, ha, hc⟩
  · exact .inl h
  · exact .inr ⟨x, ha, fun i hi => (hb.cell (Nat.lt_of_lt_of_le (World.block_lt_of_cell? w _ (hc i hi)) hB)).trans (hc i hi)⟩
theorem InS.below {B : Nat} {w w' : World} {a : Option Addr} {n : Nat} {z : Nat → ByteArray} (h : InS w a n z) (hB : w.heap.size ≤ B) (hb : Below B w w') : InS w' a n z := by
  rcases h with h | ⟨x, ha, hc⟩
  · exact .inl h
  · exact .inr ⟨x, ha, fun i hi => (hb.cell (Nat.lt_of_lt_of_le (World.block_lt_of_cell? w _ (hc i hi)) hB)).trans (hc i hi)⟩

def rowI (n : Nat) (z : Nat → Int) : List Value := (List.range n).map fun i => .int .i64 (z i)
def rowS (n : Nat) (z : Nat → ByteArray) : List Value := (List.range n).map fun i => .string (z i)
theorem rowI_length (n : Nat) (z : Nat → Int) : (rowI n z).length = n := by simp [rowI]
theorem rowS_length (n : Nat) (z : Nat → ByteArray) : (rowS n z).length = n := by simp [rowS]
theorem rowI_at {n : Nat} {z : Nat → Int} {j : Nat} (hj : j < n) : (rowI n z)[j]? = some (.int .i64 (z j)) := by simp [rowI, hj]
theorem rowS_at {n : Nat} {z : Nat → ByteArray} {j : Nat} (hj : j < n) : (rowS n z)[j]? = some (.string (z j)) := by simp [rowS, hj]
theorem rowI_one (n : Nat) (z : Nat → Int) : ∀ v ∈ rowI n z, v.oneCell' = true := by
  intro v hv
  simp only [rowI, List.mem_map] at hv
  obtain ⟨i, _, rfl⟩ := hv
  rfl
theorem rowS_one (n : Nat) (z : Nat → ByteArray) : ∀ v ∈ rowS n z, v.oneCell' = true := by
  intro v hv
  simp only [rowS, List.mem_map] at hv
  obtain ⟨i, _, rfl⟩ := hv
  rfl
theorem rowI_src {w : World} {x : Addr} {n : Nat} {z : Nat → Int} (h : ∀ i, i < n → w.cell? (x.add i) = some (.int .i64 (z i))) : ∀ j v, (rowI n z)[j]? = some v → w.cell? (x.add j) = some v := by
  intro j v hj
  have hl := (List.getElem?_eq_some_iff.1 hj).1
  rw [rowI_length] at hl
  rw [rowI_at hl] at hj
  cases hj
  exact h j hl
theorem rowS_src {w : World} {x : Addr} {n : Nat} {z : Nat → ByteArray} (h : ∀ i, i < n → w.cell? (x.add i) = some (.string (z i))) : ∀ j v, (rowS n z)[j]? = some v → w.cell? (x.add j) = some v := by
  intro j v hj
  have hl := (List.getElem?_eq_some_iff.1 hj).1
  rw [rowS_length] at hl
  rw [rowS_at hl] at hj
  cases hj
  exact h j hl

theorem ownI_of {w : World} {g n : Nat} {z : Nat → Int} (h : ∀ j v, (rowI n z)[j]? = some v → w.cell? ⟨g, j, none⟩ = some v) : OwnI w (some ⟨g, 0, none⟩) n z := fun _ => ⟨g, rfl, fun i hi => h i _ (rowI_at hi)⟩
theorem ownS_of {w : World} {g n : Nat} {z : Nat → ByteArray} (h : ∀ j v, (rowS n z)[j]? = some v → w.cell? ⟨g, j, none⟩ = some v) : OwnS w (some ⟨g, 0, none⟩) n z := fun _ => ⟨g, rfl, fun i hi => h i _ (rowS_at hi)⟩

theorem sumLen_at (ss : List ByteArray) (i : Nat) : (ss.getD i ByteArray.empty).size ≤ sumLen ss := by
  by_cases h : i < ss.length
  · have h1 := sumLen_take_succ ss i h
    have h2 : sumLen ss = sumLen (ss.take (i + 1)) + sumLen (ss.drop (i + 1)) := by
      unfold sumLen
      rw [← List.sum_append, ← List.map_append, List.take_append_drop]
    omega
  · have : ss.getD i ByteArray.empty = ByteArray.empty := by simp [List.getD, Nat.le_of_not_lt h]
    rw [this]
    exact Nat.zero_le _

theorem strRow_of {w : World} {a : Option Addr} {n : Nat} {ss : List ByteArray} (hl : ss.length = n) (h : InS w a n fun i => ss.getD i ByteArray.empty) : StrRow w a n ss := by
  refine ⟨hl, ?_⟩
  by_cases h0 : n = 0
  · exact .inl h0
  · rcases h with ⟨_, h⟩ | ⟨⟨b, o, spot⟩, rfl, hc⟩
    · omega
    · have hspot : spot = none := by simpa [Addr.add] using World.cell?_spot (hc 0 (by omega))
      subst hspot
      exact .inr ⟨b, o, rfl, fun i hi => by have := hc i hi; rwa [add_plain] at this⟩
end Kt
end Go.Proofs.Qxb6623459a
