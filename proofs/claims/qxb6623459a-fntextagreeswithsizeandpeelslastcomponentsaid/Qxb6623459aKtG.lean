import Derived.Test.Qxb6623459aKtF
import Derived.ArgAppend
import Derived.Laws.IdiomCopy
import Derived.Lib.EndianMore
namespace Go.Proofs.Qxb6623459a
open Go.RowKit Go.WideShapes
set_option linter.unusedVariables false
namespace Kt

theorem Try.info3 : ((Try.prog.info? 3).map fun i => (i.zero, i.size, i.bytes)) = some (some (.int .i64 0), 1, 8) := by kernel_rfl

def ints (xs : List Nat) : List Value := xs.map fun q : Nat => Value.int .i64 (q : Int)
theorem ints_length (xs : List Nat) : (ints xs).length = xs.length := by simp [ints]
theorem ints_snoc (xs : List Nat) (q : Nat) : ints (xs ++ [q]) = ints xs ++ [.int .i64 (q : Int)] := by simp [ints]
theorem ints_at (xs : List Nat) (j : Nat) (h : j < xs.length) : (ints xs)[j]? = some (.int .i64 (xs[j] : Int)) := by simp [ints, h]

/-- 'along': a row of one of the call's own blocks (from A on), with its spare room. -/
structure Al (A : Nat) (w : World) (g cap : Nat) (xs : List Nat) : Prop where
  base : A ≤ g
  lt : g < w.heap.size
  room : xs.length ≤ cap
  cells : ∀ j u, (ints xs)[j]? = some u → w.cell? ⟨g, j, none⟩ = some u
  spare : ∀ j, xs.length ≤ j → j < cap → (w.cell? ⟨g, j, none⟩).isSome = true ∧ w.frozen? ⟨g, j, none⟩ = false

theorem Al.alloc {A : Nat} {w : World} {g cap : Nat} {xs : List Nat} (h : Al A w g cap xs) (cs : Array Value) (t : TypeId) : Al A (w.alloc (.cells cs t)) g cap xs := by
  refine ⟨h.base, by have := h.lt; simp; omega, h.room, fun j u hj => ?_, fun j h1 h2 => ?_⟩
  · rw [World.cell?_alloc_lt (h := h.lt)]; exact h.cells j u hj
  · rw [World.cell?_alloc_lt (h := h.lt)]
    refine ⟨(h.spare j h1 h2).1, ?_⟩
    rw [frozen?_alloc_cells]; exact (h.spare j h1 h2).2

theorem al_append {A : Nat} {w : World} {g cap : Nat} {xs : List Nat} (h : Al A w g cap xs) (hA : A ≤ w.heap.size) (ty : TypeId) (q : Nat) (ad : Addr) (c : Nat) (hq : w.cell? ad = some (.int .i64 (q : Int))) (hlen : xs.length ≤ 1048576) :
    ∃ g' cap' w', (Builtin.append_ #[22, 22] ty #[.slice (some ⟨g, 0, none⟩) xs.length cap, .slice (some ad) 1 c]).run Try.prog w = .ok (.slice (some ⟨g', 0, none⟩) (xs.length + 1) cap') w' ∧ Al A w' g' cap' (xs ++ [q]) ∧ Below A w w' := by
  obtain ⟨i0, hi, hy0, hy1, hy2⟩ := info_parts Try.info3
  have hnews : ∀ j u, [Value.int .i64 (q : Int)][j]? = some u → w.cell? (ad.add j) = some u := by
    intro j u hj
    match j, hj with
    | 0, hj =>
      simp at hj
      subst hj
      rw [show ad.add 0 = ad by unfold Addr.add; split <;> simp_all]
      exact hq
  have hone : ∀ u ∈ [Value.int .i64 (q : Int)], u.oneCell' = true := by
    intro u hu
    simp at hu
    subst hu
    rfl
  have hb := h.base
  have hl := h.lt
  have hr := h.room
  by_cases hroom : xs.length + 1 ≤ cap
  · have hrun := run_append_room_cells (P := Try.prog) w 22 ty 3 i0 Try.underlying22 hi g 0 xs.length cap ad 1 c [.int .i64 (q : Int)] (by rw [hy1]; rfl) hnews hone hroom
      (fun j hj => by
        obtain rfl : j = 0 := by simpa using hj
        have := (h.spare xs.length (Nat.le_refl _) (by omega)).1
        simpa [hy1] using this)
      (fun j hj => by
        obtain rfl : j = 0 := by simpa using hj
        have := (h.spare xs.length (Nat.le_refl _) (by omega)).2
        simpa [hy1] using this)
    rw [show 0 + xs.length * i0.size = xs.length by rw [hy1]; omega] at hrun
    refine ⟨g, cap, _, hrun, ?_, Lib.below_setCells_w hb _ _ _⟩
    have hbel : Below A w (w.setCells g xs.length [.int .i64 (q : Int)]) := Lib.below_setCells_w hb _ _ _
    refine ⟨hb, Nat.lt_of_lt_of_le hl hbel.size, by simp; omega, fun j u hj => ?_, fun j h1 h2 => ?_⟩
    · rw [ints_snoc] at hj
      by_cases hjl : j < xs.length
      · rw [List.getElem?_append_left (by rw [ints_length]; exact hjl)] at hj
        rw [World.cell?_setCells_out g _ _ _ _ (fun _ _ => .inl (by exact hjl))]
        exact h.cells j u hj
      · rw [List.getElem?_append_right (by rw [ints_length]; omega), ints_length] at hj
        have hj0 : j = xs.length := by
          have := (List.getElem?_eq_some_iff.1 hj).1
          simp at this
          omega
        subst hj0
        simp at hj
        subst hj
        have := World.cell?_setCells_in g [.int .i64 (q : Int)] xs.length w (fun i hi => by
          obtain rfl : i = 0 := by simpa using hi
          exact (h.spare xs.length (Nat.le_refl _) (by omega)).1) 0 (by simp)
        simpa using this
    · simp only [List.length_append, List.length_cons, List.length_nil] at h1
      rw [World.cell?_setCells_out g _ _ _ _ (fun _ _ => .inr (by simp; omega)), World.frozen?_setCells]
      exact h.spare j (by omega) h2
  · obtain ⟨v', w', hrun, hown, hgrow⟩ := run_append_arg_grows (P := Try.prog) w 22 ty 3 i0 (.int .i64 0) 1 8 Try.underlying22 hi hy0 hy1 hy2 rfl (by omega) ⟨g, 0, none⟩ xs.length cap (ints xs) (by rw [ints_length]; omega)
      (fun j u hj => by rw [add_plain, Nat.zero_add]; exact h.cells j u hj) ad 1 c [.int .i64 (q : Int)] rfl hnews (by omega) (by unfold maxLen; omega) (by omega)
    obtain ⟨h1, h2⟩ := hown
    rcases h2 with ⟨_, h2⟩ | ⟨g', cap', cur, rfl, hbg, hh, hnc, hcm, hcs, htk⟩
    · omega
    · refine ⟨g', cap', w', hrun, ⟨by omega, ?_, by simp; omega, fun j u hj => ?_, fun j h3 h4 => ?_⟩, (Below.refl _ _).grown hgrow hA (fun k e => by cases e)⟩
      · rw [Array.getElem?_eq_some_iff] at hh
        exact hh.1
      · rw [ints_snoc, ← htk] at hj
        rw [cell_of_row w' g' j cur 3 (0, 0) hh]
        rw [List.getElem?_take] at hj
        split at hj
        · simpa using hj
        · cases hj
      · rw [cell_of_row w' g' j cur 3 (0, 0) hh]
        refine ⟨?_, frozen_of_row w' g' j cur 3 hh⟩
        simp
        omega
end Kt
end Go.Proofs.Qxb6623459a
