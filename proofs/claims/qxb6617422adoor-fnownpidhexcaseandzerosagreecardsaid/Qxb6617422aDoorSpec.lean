import Derived.Test.Qxb6617422aDoorPlain
namespace Go.Proofs.Qxb6617422aDoor.Pd

/-- "-P" stands at place j. -/
def PAt (l : List UInt8) (j : Nat) : Prop := l[j]? = some 45 ∧ l[j + 1]? = some 80
/-- The last "-P", and no '/' behind it. -/
def Good (l : List UInt8) (j : Nat) : Prop := PAt l j ∧ (∀ s, j < s → l[s]? ≠ some 47) ∧ ∀ i, j < i → ¬ PAt l i
/-- Every "-P" has a '/' behind it. -/
def Bare (l : List UInt8) : Prop := ∀ j, PAt l j → ∃ s, j < s ∧ l[s]? = some 47

/-- What a session id's own pid is read as. -/
def Reads (l : List UInt8) (v : Nat) (b : Bool) : Prop := (∃ j, Good l j ∧ v = (pr (l.drop (j + 2))).2 ∧ b = ((pr (l.drop (j + 2))).1 == 0)) ∨ (Bare l ∧ v = 0 ∧ b = false)

theorem Good.uniq {l : List UInt8} {i j : Nat} (h : Good l i) (k : Good l j) : i = j := by
  rcases Nat.lt_trichotomy i j with e | e | e
  · exact absurd k.1 (h.2.2 j e)
  · exact e
  · exact absurd h.1 (k.2.2 i e)
theorem Good.notBare {l : List UInt8} {j : Nat} (h : Good l j) (k : Bare l) : False := by
  obtain ⟨s, hs, he⟩ := k j h.1
  exact h.2.1 s hs he

theorem Reads.uniq {l : List UInt8} {v v' : Nat} {b b' : Bool} (h : Reads l v b) (k : Reads l v' b') : v = v' ∧ b = b' := by
  rcases h with ⟨i, hi, rfl, rfl⟩ | ⟨hb, rfl, rfl⟩
  · rcases k with ⟨j, hj, rfl, rfl⟩ | ⟨kb, rfl, rfl⟩
    · rw [hi.uniq hj]; exact ⟨rfl, rfl⟩
    · exact (hi.notBare kb).elim
  · rcases k with ⟨j, hj, rfl, rfl⟩ | ⟨kb, rfl, rfl⟩
    · exact (hj.notBare hb).elim
    · exact ⟨rfl, rfl⟩

section
variable (p l : List UInt8)
theorem ahead_at (i : Nat) : (p ++ 47 :: l)[p.length + 1 + i]? = l[i]? := by
  rw [List.getElem?_append_right (by omega)]
  rw [show p.length + 1 + i - p.length = i + 1 by omega]
  simp
theorem ahead_slash : (p ++ 47 :: l)[p.length]? = some 47 := by
  rw [List.getElem?_append_right (Nat.le_refl _)]
  simp
theorem ahead_PAt (i : Nat) : PAt (p ++ 47 :: l) (p.length + 1 + i) ↔ PAt l i := by
  unfold PAt
  rw [ahead_at, show p.length + 1 + i + 1 = p.length + 1 + (i + 1) by omega, ahead_at]

theorem ahead_drop (j : Nat) : (p ++ 47 :: l).drop (p.length + 1 + j + 2) = l.drop (j + 2) := by
  apply List.ext_getElem?
  intro i
  rw [List.getElem?_drop, List.getElem?_drop, show p.length + 1 + j + 2 + i = p.length + 1 + (j + 2 + i) by omega, ahead_at]

/-- pre + "/" + sid reads as sid. -/
theorem Reads.ahead {v : Nat} {b : Bool} (h : Reads l v b) : Reads (p ++ 47 :: l) v b := by
  rcases h with ⟨j, ⟨h1, h2, h3⟩, rfl, rfl⟩ | ⟨hb, rfl, rfl⟩
  · refine .inl ⟨p.length + 1 + j, ⟨(ahead_PAt p l j).2 h1, fun s hs => ?_, fun i hi => ?_⟩, ?_, ?_⟩
    · obtain ⟨t, rfl⟩ : ∃ t, s = p.length + 1 + t := ⟨s - (p.length + 1), by omega⟩
      rw [ahead_at]
      exact h2 t (by omega)
    · obtain ⟨t, rfl⟩ : ∃ t, i = p.length + 1 + t := ⟨i - (p.length + 1), by omega⟩
      rw [ahead_PAt]
      exact h3 t (by omega)
    · rw [ahead_drop]
    · rw [ahead_drop]
  · refine .inr ⟨fun j hj => ?_, rfl, rfl⟩
    by_cases h1 : j < p.length
    · exact ⟨p.length, h1, ahead_slash p l⟩
    · by_cases h2 : j = p.length
      · subst h2
        have := hj.1
        rw [ahead_slash] at this
        cases this
      · obtain ⟨t, rfl⟩ : ∃ t, j = p.length + 1 + t := ⟨j - (p.length + 1), by omega⟩
        rw [ahead_PAt] at hj
        obtain ⟨s, hs, he⟩ := hb t hj
        exact ⟨p.length + 1 + s, by omega, by rw [ahead_at]; exact he⟩
end

end Go.Proofs.Qxb6617422aDoor.Pd
