import Derived.Test.Qxb6617422aDoorSpec
namespace Go.Proofs.Qxb6617422aDoor.Pd

/-- The forward scan's state behind the first i bytes. -/
def Scan (l : List UInt8) (i : Nat) (k : Int) : Prop :=
  (k = -1 ∧ ∀ j, j < i → PAt l j → ∃ s, j < s ∧ s < i ∧ l[s]? = some 47) ∨
  ∃ j : Nat, k = j ∧ j < i ∧ PAt l j ∧ (∀ s, j < s → s < i → l[s]? ≠ some 47) ∧ ∀ t, j < t → t < i → ¬ PAt l t

theorem Scan.start (l : List UInt8) : Scan l 0 (-1) := .inl ⟨rfl, fun j h => by omega⟩

theorem Scan.slash {l : List UInt8} {i : Nat} (h47 : l[i]? = some 47) : Scan l (i + 1) (-1) := by
  refine .inl ⟨rfl, fun j hj hp => ?_⟩
  by_cases e : j = i
  · subst e
    have := hp.1
    rw [h47] at this
    cases this
  · exact ⟨i, by omega, by omega, h47⟩

theorem Scan.hit {l : List UInt8} {i : Nat} (hp : PAt l i) : Scan l (i + 1) (i : Int) :=
  .inr ⟨i, rfl, by omega, hp, fun s h1 h2 => by omega, fun s h1 h2 => by omega⟩

theorem Scan.pass {l : List UInt8} {i : Nat} {k : Int} (h : Scan l i k) (h47 : l[i]? ≠ some 47) (hp : ¬ PAt l i) : Scan l (i + 1) k := by
  rcases h with ⟨rfl, h⟩ | ⟨j, rfl, h1, h2, h3, h4⟩
  · refine .inl ⟨rfl, fun j hj hpj => ?_⟩
    by_cases e : j = i
    · subst e; exact absurd hpj hp
    · obtain ⟨s, a, b, c⟩ := h j (by omega) hpj
      exact ⟨s, a, by omega, c⟩
  · refine .inr ⟨j, rfl, by omega, h2, fun s a b => ?_, fun t a b => ?_⟩
    · by_cases e : s = i
      · subst e; exact h47
      · exact h3 s a (by omega)
    · by_cases e : t = i
      · subst e; exact hp
      · exact h4 t a (by omega)

theorem at_lt {l : List UInt8} {s : Nat} {c : UInt8} (h : l[s]? = some c) : s < l.length := (List.getElem?_eq_some_iff.1 h).1

theorem Scan.done {l : List UInt8} {k : Int} (h : Scan l l.length k) : (k = -1 ∧ Bare l) ∨ ∃ j : Nat, k = j ∧ Good l j ∧ j + 2 ≤ l.length := by
  rcases h with ⟨rfl, h⟩ | ⟨j, rfl, h1, h2, h3, h4⟩
  · refine .inl ⟨rfl, fun j hp => ?_⟩
    obtain ⟨s, a, _, c⟩ := h j (at_lt hp.1) hp
    exact ⟨s, a, c⟩
  · refine .inr ⟨j, rfl, ⟨h2, fun s a e => h3 s a (at_lt e) e, fun t a hp => h4 t a (at_lt hp.1) hp⟩, ?_⟩
    have := at_lt h2.2
    omega

theorem Scan.bounds {l : List UInt8} {i : Nat} {k : Int} (h : Scan l i k) : -1 ≤ k ∧ k < i := by
  rcases h with ⟨rfl, _⟩ | ⟨j, rfl, h1, _⟩
  · omega
  · omega
end Go.Proofs.Qxb6617422aDoor.Pd
