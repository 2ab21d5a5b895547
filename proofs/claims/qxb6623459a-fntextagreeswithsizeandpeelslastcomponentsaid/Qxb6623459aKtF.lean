import Derived.Test.Qxb6623459aKtE
namespace Go.Proofs.Qxb6623459a
set_option linter.unusedVariables false
namespace Kt

def chain (pz : Nat → Int) : Nat → Nat → List Nat
  | 0, _ => []
  | f + 1, p => if p = 0 then [] else p :: chain pz f (pz p).toNat
/-- The paths from p up to the root, the root left out. -/
def up (pz : Nat → Int) (p : Nat) : List Nat := chain pz p p
/-- Of a list of paths, the last one first: their names, one behind the other. -/
def names (ss : Nat → ByteArray) (l : List Nat) : List UInt8 := (l.reverse.map fun q => (ss q).data.toList).flatten

theorem chain_zero (pz : Nat → Int) (f : Nat) : chain pz f 0 = [] := by cases f <;> simp [chain]
theorem chain_eq {pz : Nat → Int} {n : Nat} (h : ∀ p, 1 ≤ p → p < n → 0 ≤ pz p ∧ pz p < p) : ∀ f g p, p ≤ f → p ≤ g → p < n → chain pz f p = chain pz g p := by
  intro f
  induction f with
  | zero =>
    intro g p hp _ _
    obtain rfl : p = 0 := by omega
    rw [chain_zero, chain_zero]
  | succ f ih =>
    intro g p hp hg hn
    by_cases h0 : p = 0
    · subst h0; rw [chain_zero, chain_zero]
    · obtain ⟨g', rfl⟩ : ∃ g', g = g' + 1 := ⟨g - 1, by omega⟩
      have h1 := h p (by omega) hn
      simp only [chain, if_neg h0]
      rw [ih g' _ (by omega) (by omega) (by omega)]

section
variable {pz : Nat → Int} {ss : Nat → ByteArray} {sz : Nat → Int} {n : Nat}

theorem TreeUp.down (h : TreeUp pz ss sz n) : ∀ p, 1 ≤ p → p < n → 0 ≤ pz p ∧ pz p < p := fun p h1 h2 => ⟨(h.2 p h1 h2).1, (h.2 p h1 h2).2.1⟩

theorem up_zero : up pz 0 = [] := rfl
theorem up_step (h : TreeUp pz ss sz n) (p : Nat) (h1 : 1 ≤ p) (h2 : p < n) : up pz p = p :: up pz (pz p).toNat := by
  have hd := h.down p h1 h2
  obtain ⟨q, rfl⟩ : ∃ q, p = q + 1 := ⟨p - 1, by omega⟩
  unfold up
  rw [chain, if_neg (by omega)]
  rw [chain_eq h.down q (pz (q + 1)).toNat _ (by omega) (Nat.le_refl _) (by omega)]

theorem up_length (h : TreeUp pz ss sz n) : ∀ p, p < n → (up pz p).length ≤ p := by
  intro p
  induction p using Nat.strongRecOn with
  | _ p ih =>
    intro hp
    by_cases h0 : p = 0
    · subst h0; simp [up_zero]
    · have hd := h.down p (by omega) hp
      rw [up_step h p (by omega) hp]
      have := ih (pz p).toNat (by omega) (by omega)
      simp only [List.length_cons]
      omega

theorem up_lt (h : TreeUp pz ss sz n) : ∀ p, p < n → ∀ q ∈ up pz p, q < n := by
  intro p
  induction p using Nat.strongRecOn with
  | _ p ih =>
    intro hp q hq
    by_cases h0 : p = 0
    · subst h0; simp [up_zero] at hq
    · have hd := h.down p (by omega) hp
      rw [up_step h p (by omega) hp] at hq
      rcases List.mem_cons.1 hq with rfl | hq
      · exact hp
      · exact ih (pz p).toNat (by omega) (by omega) q hq

theorem names_nil : names ss [] = [] := rfl
theorem names_cons (p : Nat) (l : List Nat) : names ss (p :: l) = names ss l ++ (ss p).data.toList := by
  simp [names]
theorem names_drop (l : List Nat) (r : Nat) (h : r < l.length) : names ss (l.drop r) = names ss (l.drop (r + 1)) ++ (ss l[r]).data.toList := by
  rw [List.drop_eq_getElem_cons h, names_cons]

theorem names_length (l : List Nat) (hs : ∀ q ∈ l, (ss q).size ≤ 1048576) : (names ss l).length ≤ l.length * 1048576 := by
  induction l with
  | nil => simp [names_nil]
  | cons p l ih =>
    rw [names_cons]
    have h1 := ih (fun q hq => hs q (List.mem_cons_of_mem _ hq))
    have h2 := hs p List.mem_cons_self
    have h3 : (ss p).data.toList.length = (ss p).size := by simp
    simp only [List.length_append, List.length_cons, h3]
    omega

theorem names_size (h : TreeUp pz ss sz n) : ∀ p, p < n → ((names ss (up pz p)).length : Int) = sz p := by
  intro p
  induction p using Nat.strongRecOn with
  | _ p ih =>
    intro hp
    by_cases h0 : p = 0
    · subst h0; rw [up_zero, names_nil, h.1]; rfl
    · have hd := h.2 p (by omega) hp
      rw [up_step h p (by omega) hp, names_cons, hd.2.2, ← ih (pz p).toNat (by omega) (by omega)]
      have h3 : (ss p).data.toList.length = (ss p).size := by simp
      simp only [List.length_append, h3]
      omega
end
end Kt
end Go.Proofs.Qxb6623459a
