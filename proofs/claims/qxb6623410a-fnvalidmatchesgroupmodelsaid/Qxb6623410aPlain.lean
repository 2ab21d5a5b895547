namespace Go.Proofs.Qxb6623410a.Uv

/-- A hexadecimal digit of either case. -/
def hexB (c : Nat) : Bool := (decide (48 ≤ c) && decide (c ≤ 57)) || (decide (97 ≤ c) && decide (c ≤ 102)) || (decide (65 ≤ c) && decide (c ≤ 70))
def dashAt (i : Nat) : Bool := i == 8 || i == 13 || i == 18 || i == 23
def okAt (i c : Nat) : Bool := if dashAt i then c == 45 else hexB c
def want (k : Nat) : Nat := if k = 0 then 8 else if k = 4 then 12 else 4
def bgn (k : Nat) : Nat := match k with | 0 => 0 | 1 => 9 | 2 => 14 | 3 => 19 | _ => 24

/-- What the model's loop comes to from the state (k, n) on. -/
def grun : Nat → Nat → List UInt8 → Bool
  | k, n, [] => k == 4 && n == 12
  | k, n, c :: l => if c.toNat = 45 then (if 4 ≤ k then false else if n ≠ want k then false else grun (k + 1) 0 l) else if hexB c.toNat = false then false else if want k < n + 1 then false else grun k (n + 1) l

def Ok (p : Nat) (l : List UInt8) : Prop := l.length + p = 36 ∧ ∀ i (h : i < l.length), okAt (p + i) l[i].toNat = true

theorem ok_cons (p : Nat) (c : UInt8) (l : List UInt8) : Ok p (c :: l) ↔ p + 1 ≤ 36 ∧ okAt p c.toNat = true ∧ Ok (p + 1) l := by
  unfold Ok
  constructor
  · rintro ⟨h1, h2⟩
    simp only [List.length_cons] at h1
    refine ⟨by omega, h2 0 (by simp), by omega, fun i h => ?_⟩
    have := h2 (i + 1) (by simp; omega)
    simp only [List.getElem_cons_succ] at this
    rw [show p + 1 + i = p + (i + 1) by omega]
    exact this
  · rintro ⟨_, h2, h3, h4⟩
    refine ⟨by simp only [List.length_cons]; omega, fun i h => ?_⟩
    cases i with
    | zero => exact h2
    | succ j =>
      simp only [List.getElem_cons_succ]
      rw [show p + (j + 1) = p + 1 + j by omega]
      exact h4 j (by simpa using h)

theorem grun_ok (l : List UInt8) : ∀ k n, k ≤ 4 → n ≤ want k → (grun k n l = true ↔ Ok (bgn k + n) l) := by
  induction l with
  | nil =>
    intro k n hk hn
    have : k = 0 ∨ k = 1 ∨ k = 2 ∨ k = 3 ∨ k = 4 := by omega
    rcases this with rfl | rfl | rfl | rfl | rfl <;> simp [grun, Ok, want, bgn] at * <;> omega
  | cons c l ih =>
    intro k n hk hn
    rw [ok_cons]
    unfold grun
    by_cases hc : c.toNat = 45
    · rw [if_pos hc, hc]
      by_cases h4 : 4 ≤ k
      · obtain rfl : k = 4 := by omega
        rw [if_pos h4]
        simp only [want, bgn, Bool.false_eq_true, false_iff, not_and] at *
        intro h
        have : dashAt (24 + n) = false := by simp [dashAt]; omega
        simp [okAt, this, hexB]
      · rw [if_neg h4]
        by_cases hw : n = want k
        · subst hw
          have e : bgn (k + 1) = bgn k + want k + 1 := by
            have : k = 0 ∨ k = 1 ∨ k = 2 ∨ k = 3 := by omega
            rcases this with rfl | rfl | rfl | rfl <;> rfl
          have d : dashAt (bgn k + want k) = true ∧ bgn k + want k + 1 ≤ 36 := by
            have : k = 0 ∨ k = 1 ∨ k = 2 ∨ k = 3 := by omega
            rcases this with rfl | rfl | rfl | rfl <;> decide
          rw [if_neg (by simp), ih (k + 1) 0 (by omega) (Nat.zero_le _), Nat.add_zero, e]
          simp [okAt, d.1, d.2]
        · rw [if_pos hw]
          simp only [Bool.false_eq_true, false_iff, not_and]
          intro _ h
          have d : dashAt (bgn k + n) = false := by
            have : k = 0 ∨ k = 1 ∨ k = 2 ∨ k = 3 := by omega
            rcases this with rfl | rfl | rfl | rfl <;> simp [dashAt, bgn, want] at * <;> omega
          simp [okAt, d, hexB] at h
    · rw [if_neg hc]
      by_cases hw : n = want k
      · subst hw
        have e : (if hexB c.toNat = false then false else if want k < want k + 1 then false else grun k (want k + 1) l) = false := by
          rw [if_pos (Nat.lt_succ_self _)]; simp
        rw [e]
        simp only [Bool.false_eq_true, false_iff, not_and]
        intro h1 h2
        have : k = 0 ∨ k = 1 ∨ k = 2 ∨ k = 3 ∨ k = 4 := by omega
        rcases this with rfl | rfl | rfl | rfl | rfl <;> simp [okAt, dashAt, bgn, want] at h1 h2 <;> omega
      · have d : dashAt (bgn k + n) = false ∧ bgn k + n + 1 ≤ 36 := by
          have : k = 0 ∨ k = 1 ∨ k = 2 ∨ k = 3 ∨ k = 4 := by omega
          rcases this with rfl | rfl | rfl | rfl | rfl <;> simp [dashAt, bgn, want] at * <;> omega
        have hi := ih k (n + 1) hk (by omega)
        rw [if_neg (by omega : ¬ want k < n + 1)]
        have e : okAt (bgn k + n) c.toNat = hexB c.toNat := by simp [okAt, d.1]
        rw [e]
        cases hexB c.toNat
        · simp
        · simp only [Bool.true_eq_false, if_false, true_and, hi]
          exact ⟨fun h => ⟨d.2, h⟩, fun h => h.2⟩

/-- THE PLAIN LAW. -/
theorem law (l : List UInt8) : grun 0 0 l = true ↔ l.length = 36 ∧ ∀ i (h : i < l.length), okAt i l[i].toNat = true := by
  have := grun_ok l 0 0 (by omega) (by simp [want])
  simpa [Ok, bgn] using this

end Go.Proofs.Qxb6623410a.Uv
