import Derived.Test.Qxb6617422aDoorSpec
namespace Go.Proofs.Qxb6617422aDoor.Pd

/-- The character of a hexadecimal digit. -/
def dch (up : Bool) (d : Nat) : Nat := if d < 10 then 48 + d else if up then 65 + d - 10 else 97 + d - 10
/-- n in hexadecimal, at most f digits, no leading zero ('' for 0). -/
def hexl (up : Bool) : Nat → Nat → List UInt8
  | 0, _ => []
  | f + 1, n => if n = 0 then [] else hexl up f (n / 16) ++ [UInt8.ofNat (dch up (n % 16))]
/-- What zzHex writes. -/
def hexs (up : Bool) (n : Nat) : List UInt8 := if n = 0 then [48] else hexl up 8 n

theorem hexl_zero (up : Bool) (f : Nat) : hexl up f 0 = [] := by cases f <;> simp [hexl]
theorem hexl_step (up : Bool) (f n : Nat) (h : n ≠ 0) : hexl up (f + 1) n = hexl up f (n / 16) ++ [UInt8.ofNat (dch up (n % 16))] := by simp [hexl, h]
theorem dch_lt (up : Bool) (d : Nat) (h : d < 16) : dch up d < 256 := by unfold dch; split <;> (try split) <;> omega
theorem dch_hex (up : Bool) (d : Nat) (h : d < 16) : hexv (dch up d) = some d := by
  unfold dch
  split
  · rw [hexv_digit _ (by omega) (by omega)]; congr 1; omega
  · split
    · rw [hexv_up _ (by omega) (by omega)]; congr 1; omega
    · rw [hexv_low _ (by omega) (by omega)]; congr 1; omega

theorem ph_snoc (l : List UInt8) (c : UInt8) : ∀ acc, ph acc (l ++ [c]) = if (ph acc l).1 = 0 then ph (ph acc l).2 [c] else ph acc l := by
  induction l with
  | nil => intro acc; rfl
  | cons x l ih =>
    intro acc
    rw [List.cons_append]
    cases hx : hexv x.toNat with
    | none => rw [ph_bad acc x _ hx, ph_bad acc x _ hx]; simp
    | some d =>
      by_cases hv : 2147483647 < acc * 16 + d
      · rw [ph_over acc x _ d hx hv, ph_over acc x _ d hx hv]; simp
      · rw [ph_go acc x _ d hx hv, ph_go acc x _ d hx hv]; exact ih _

theorem ofNat_toNat (n : Nat) (h : n < 256) : (UInt8.ofNat n).toNat = n := by simp [Nat.mod_eq_of_lt h]

theorem ph_hexl (up : Bool) : ∀ f n, f ≤ 8 → n < 16 ^ f → ph 0 (hexl up f n) = if n ≤ 2147483647 then (0, n) else (2, 2147483647) := by
  intro f
  induction f with
  | zero =>
    intro n _ hn
    obtain rfl : n = 0 := by simpa using hn
    rfl
  | succ f ih =>
    intro n hf hn
    by_cases h0 : n = 0
    · subst h0; rw [hexl_zero]; rfl
    · have h16 : 16 ^ (f + 1) ≤ 16 ^ 8 := Nat.pow_le_pow_right (by omega) hf
      have h17 : (16 : Nat) ^ 8 = 4294967296 := by decide
      have hq : n / 16 < 16 ^ f := by
        rw [Nat.pow_succ] at hn
        omega
      rw [hexl_step up f n h0, ph_snoc, ih (n / 16) (by omega) hq, if_pos (by omega : n / 16 ≤ 2147483647)]
      have hd : hexv (UInt8.ofNat (dch up (n % 16))).toNat = some (n % 16) := by
        rw [ofNat_toNat _ (dch_lt up _ (Nat.mod_lt _ (by omega)))]
        exact dch_hex up _ (Nat.mod_lt _ (by omega))
      have e : n / 16 * 16 + n % 16 = n := by omega
      show (if (0 : Nat) = 0 then ph (n / 16) [UInt8.ofNat (dch up (n % 16))] else _) = _
      rw [if_pos rfl]
      by_cases hv : n ≤ 2147483647
      · rw [if_pos hv, ph_go _ _ _ _ hd (by rw [e]; omega), e]; rfl
      · rw [if_neg hv, ph_over _ _ _ _ hd (by rw [e]; omega)]

theorem ph_hexs (up : Bool) (n : Nat) (h : n < 4294967296) : ph 0 (hexs up n) = if n ≤ 2147483647 then (0, n) else (2, 2147483647) := by
  unfold hexs
  split
  · rename_i h0; subst h0; rfl
  · exact ph_hexl up 8 n (Nat.le_refl _) (by simpa using h)

theorem ph_zeros (k : Nat) (l : List UInt8) : ph 0 (List.replicate k 48 ++ l) = ph 0 l := by
  induction k with
  | zero => rfl
  | succ k ih =>
    rw [List.replicate_succ, List.cons_append, ph_go 0 48 _ 0 (by rfl) (by omega)]
    exact ih

/-- Only hexadecimal digits. -/
def AllHex (l : List UInt8) : Prop := ∀ c ∈ l, ∃ d, hexv c.toNat = some d
theorem AllHex.app {a b : List UInt8} (h : AllHex a) (k : AllHex b) : AllHex (a ++ b) := by
  intro c hc
  rcases List.mem_append.1 hc with hc | hc
  · exact h c hc
  · exact k c hc
theorem hexl_all (up : Bool) : ∀ f n, AllHex (hexl up f n) := by
  intro f
  induction f with
  | zero => intro n c hc; cases hc
  | succ f ih =>
    intro n
    by_cases h0 : n = 0
    · subst h0; rw [hexl_zero]; intro c hc; cases hc
    · rw [hexl_step up f n h0]
      refine (ih _).app ?_
      intro c hc
      obtain rfl := List.mem_singleton.1 hc
      exact ⟨_, by rw [ofNat_toNat _ (dch_lt up _ (Nat.mod_lt _ (by omega)))]; exact dch_hex up _ (Nat.mod_lt _ (by omega))⟩
theorem hexs_all (up : Bool) (n : Nat) : AllHex (hexs up n) := by
  unfold hexs
  split
  · intro c hc
    obtain rfl := List.mem_singleton.1 hc
    exact ⟨0, rfl⟩
  · exact hexl_all up 8 n
theorem zeros_all (k : Nat) : AllHex (List.replicate k 48) := by
  intro c hc
  obtain rfl := List.eq_of_mem_replicate hc
  exact ⟨0, rfl⟩
theorem hexl_length (up : Bool) : ∀ f n, (hexl up f n).length ≤ f := by
  intro f
  induction f with
  | zero => intro n; exact Nat.le_refl _
  | succ f ih =>
    intro n
    by_cases h0 : n = 0
    · subst h0; rw [hexl_zero]; exact Nat.zero_le _
    · rw [hexl_step up f n h0]
      have := ih (n / 16)
      simp
      exact this
theorem hexs_length (up : Bool) (n : Nat) : (hexs up n).length ≤ 8 := by
  unfold hexs
  split
  · simp
  · exact hexl_length up 8 n
theorem hexs_ne (up : Bool) (n : Nat) : hexs up n ≠ [] := by
  unfold hexs
  split
  · simp
  · rename_i h
    rw [hexl_step up 7 n h]
    simp

/-- "-P" and hexadecimal digits behind whatever text. -/
theorem good_of (p h : List UInt8) (hh : AllHex h) : Good (p ++ 45 :: 80 :: h) p.length := by
  have at0 : (p ++ 45 :: 80 :: h)[p.length]? = some 45 := by rw [List.getElem?_append_right (Nat.le_refl _)]; simp
  have at1 : (p ++ 45 :: 80 :: h)[p.length + 1]? = some 80 := by rw [List.getElem?_append_right (by omega)]; simp
  have at2 : ∀ i, (p ++ 45 :: 80 :: h)[p.length + 2 + i]? = h[i]? := by
    intro i
    rw [List.getElem?_append_right (by omega), show p.length + 2 + i - p.length = i + 2 by omega]
    simp
  have no : ∀ s (c : UInt8), p.length + 2 ≤ s → hexv c.toNat = none → (p ++ 45 :: 80 :: h)[s]? ≠ some c := by
    intro s c hs hn he
    obtain ⟨i, rfl⟩ : ∃ i, s = p.length + 2 + i := ⟨s - (p.length + 2), by omega⟩
    rw [at2] at he
    obtain ⟨d, hd⟩ := hh c (List.mem_of_getElem? he)
    rw [hn] at hd
    cases hd
  refine ⟨⟨at0, at1⟩, fun s hs he => ?_, fun i hi hp => ?_⟩
  · by_cases e : s = p.length + 1
    · subst e; rw [at1] at he; cases he
    · exact no s 47 (by omega) rfl he
  · by_cases e : i = p.length + 1
    · subst e; have := hp.1; rw [at1] at this; cases this
    · exact no i 45 (by omega) rfl hp.1

theorem drop_of (p h : List UInt8) : (p ++ 45 :: 80 :: h).drop (p.length + 2) = h := by
  rw [← List.drop_drop, List.drop_left]
  rfl

/-- THE PLAIN LAW. -/
theorem reads_hex (p : List UInt8) (up : Bool) (k n : Nat) (hn : n < 4294967296) : Reads (p ++ 45 :: 80 :: (List.replicate k 48 ++ hexs up n)) (if n ≤ 2147483647 then n else 2147483647) (decide (n ≤ 2147483647)) := by
  have hp : pr ((p ++ 45 :: 80 :: (List.replicate k 48 ++ hexs up n)).drop (p.length + 2)) = if n ≤ 2147483647 then (0, n) else (2, 2147483647) := by
    have hne : ¬ (List.replicate k 48 ++ hexs up n = []) := by
      intro e
      exact hexs_ne up n (List.append_eq_nil_iff.1 e).2
    rw [drop_of, pr, if_neg hne, ph_zeros, ph_hexs up n hn]
  refine .inl ⟨p.length, good_of p _ ((zeros_all k).app (hexs_all up n)), ?_, ?_⟩
  all_goals
    rw [hp]
    by_cases h : n ≤ 2147483647
    · simp [h]
    · simp [h]
end Go.Proofs.Qxb6617422aDoor.Pd
