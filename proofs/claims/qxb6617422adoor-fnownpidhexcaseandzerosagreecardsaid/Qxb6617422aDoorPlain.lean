namespace Go.Proofs.Qxb6617422aDoor.Pd

/-- The value of a hexadecimal digit of either case. -/
def hexv (c : Nat) : Option Nat := if 48 ≤ c ∧ c ≤ 57 then some (c - 48) else if 97 ≤ c ∧ c ≤ 102 then some (c - 87) else if 65 ≤ c ∧ c ≤ 70 then some (c - 55) else none

/-- Hexadecimal digits read on from 'acc': (0, the number); (1, 0): a bad byte; (2, the greatest): too great. -/
def ph : Nat → List UInt8 → Nat × Nat
  | acc, [] => (0, acc)
  | acc, c :: l => match hexv c.toNat with
    | none => (1, 0)
    | some d => if 2147483647 < acc * 16 + d then (2, 2147483647) else ph (acc * 16 + d) l

theorem hexv_digit (c : Nat) (h1 : 48 ≤ c) (h2 : c ≤ 57) : hexv c = some (c - 48) := by simp [hexv, h1, h2]
theorem hexv_low (c : Nat) (h1 : 97 ≤ c) (h2 : c ≤ 102) : hexv c = some (c - 87) := by
  have : ¬ (48 ≤ c ∧ c ≤ 57) := by omega
  simp [hexv, this, h1, h2]
theorem hexv_up (c : Nat) (h1 : 65 ≤ c) (h2 : c ≤ 70) : hexv c = some (c - 55) := by
  have a : ¬ (48 ≤ c ∧ c ≤ 57) := by omega
  have b : ¬ (97 ≤ c ∧ c ≤ 102) := by omega
  simp [hexv, a, b, h1, h2]
theorem hexv_none (c : Nat) (h1 : ¬ (48 ≤ c ∧ c ≤ 57)) (h2 : ¬ (97 ≤ c ∧ c ≤ 102)) (h3 : ¬ (65 ≤ c ∧ c ≤ 70)) : hexv c = none := by simp [hexv, h1, h2, h3]
theorem hexv_lt (c d : Nat) (h : hexv c = some d) : d < 16 := by
  unfold hexv at h
  split at h
  · cases h; omega
  · split at h
    · cases h; omega
    · split at h
      · cases h; omega
      · cases h

theorem ph_bad (acc : Nat) (c : UInt8) (l : List UInt8) (h : hexv c.toNat = none) : ph acc (c :: l) = (1, 0) := by simp [ph, h]
theorem ph_over (acc : Nat) (c : UInt8) (l : List UInt8) (d : Nat) (h : hexv c.toNat = some d) (hv : 2147483647 < acc * 16 + d) : ph acc (c :: l) = (2, 2147483647) := by simp [ph, h, hv]
theorem ph_go (acc : Nat) (c : UInt8) (l : List UInt8) (d : Nat) (h : hexv c.toNat = some d) (hv : ¬ 2147483647 < acc * 16 + d) : ph acc (c :: l) = ph (acc * 16 + d) l := by simp [ph, h, hv]

theorem ph_code (l : List UInt8) : ∀ acc, acc ≤ 2147483647 → (ph acc l).1 ≤ 2 ∧ (ph acc l).2 ≤ 2147483647 := by
  induction l with
  | nil => intro acc h; exact ⟨by simp [ph], h⟩
  | cons c l ih =>
    intro acc h
    cases hc : hexv c.toNat with
    | none => rw [ph_bad acc c l hc]; exact ⟨by omega, by omega⟩
    | some d =>
      by_cases hv : 2147483647 < acc * 16 + d
      · rw [ph_over acc c l d hc hv]; exact ⟨by omega, by omega⟩
      · rw [ph_go acc c l d hc hv]; exact ih _ (by omega)

/-- strconv.ParseUint(s, 16, 31): the code and the number. -/
def pr (l : List UInt8) : Nat × Nat := if l = [] then (1, 0) else ph 0 l

theorem pr_code (l : List UInt8) : (pr l).1 = 0 ∨ (pr l).1 = 1 ∨ (pr l).1 = 2 := by
  unfold pr
  split
  · exact .inr (.inl rfl)
  · have := (ph_code l 0 (by omega)).1
    omega
theorem pr_le (l : List UInt8) : (pr l).2 ≤ 2147483647 := by
  unfold pr
  split
  · omega
  · exact (ph_code l 0 (by omega)).2

end Go.Proofs.Qxb6617422aDoor.Pd
