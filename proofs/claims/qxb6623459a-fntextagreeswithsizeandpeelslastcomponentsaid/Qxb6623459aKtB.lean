import Derived.Test.Qxb6623459aKtA
namespace Go.Proofs.Qxb6623459a
open Go.RowKit
set_option linter.unusedVariables false
namespace Kt

/-- The tree's invariant up to path k. -/
def TreeUp (pz : Nat → Int) (ss : Nat → ByteArray) (sz : Nat → Int) (k : Nat) : Prop :=
  sz 0 = 0 ∧ ∀ p, 1 ≤ p → p < k → 0 ≤ pz p ∧ pz p < p ∧ sz p = sz (pz p).toNat + (ss p).size

theorem TreeUp.bound {pz : Nat → Int} {ss : Nat → ByteArray} {sz : Nat → Int} {k : Nat} (h : TreeUp pz ss sz k) (hs : ∀ p, p < k → (ss p).size ≤ 1048576) : ∀ p, p < k ∨ p = 0 → 0 ≤ sz p ∧ sz p ≤ p * 1048576 := by
  intro p
  induction p using Nat.strongRecOn with
  | _ p ih =>
    intro hp
    by_cases h0 : p = 0
    · subst h0
      rw [h.1]
      omega
    · have h2 := h.2 p (by omega) (by omega)
      have h3 := ih (pz p).toNat (by omega) (by omega)
      have h4 := hs p (by omega)
      rw [h2.2.2]
      omega

theorem TreeUp.succ {pz : Nat → Int} {ss : Nat → ByteArray} {sz : Nat → Int} {k : Nat} (h : TreeUp pz ss sz k) (h1 : 0 ≤ pz k) (h2 : pz k < k) (h3 : sz k = sz (pz k).toNat + (ss k).size) : TreeUp pz ss sz (k + 1) :=
  ⟨h.1, fun p hp hk => by
    by_cases e : p = k
    · subst e; exact ⟨h1, h2, h3⟩
    · exact h.2 p hp (by omega)⟩

theorem tree_zero (a0 : Option Addr) (c0 : Nat) (an : Option Addr) (ln cn : Nat) (a3 : Option Addr) (l3 c3 : Nat) (w : World) :
    Calls Try.prog 6 #[.slice a0 0 c0, .slice an ln cn, .slice a3 l3 c3] w fun e w' => e = .returned (.bool false) ∧ w' = w := by
  go_enter Try.func6, Try.ntmps6
  go_wp2
  go_ret
  exact ⟨rfl, rfl⟩

set_option maxHeartbeats 1000000 in
theorem tree6 (gp gn gs n c0 cn c3 : Nat) (pz : Nat → Int) (ss : Nat → ByteArray) (sz : Nat → Int) (w : World) (hn1 : 1 ≤ n) (hn2 : n ≤ 1048576)
    (hp : ∀ i, i < n → w.cell? ⟨gp, i, none⟩ = some (.int .i64 (pz i))) (hs : ∀ i, i < n → w.cell? ⟨gn, i, none⟩ = some (.string (ss i))) (hz : ∀ i, i < n → w.cell? ⟨gs, i, none⟩ = some (.int .i64 (sz i)))
    (hb : ∀ i, i < n → (ss i).size ≤ 1048576) :
    Calls Try.prog 6 #[.slice (some ⟨gp, 0, none⟩) n c0, .slice (some ⟨gn, 0, none⟩) n cn, .slice (some ⟨gs, 0, none⟩) n c3] w fun e w' => BoolQ (fun r => r = true → TreeUp pz ss sz n) e ∧ ∃ m, w' = w.drewN m := by
  have hz0 := hz 0 (by omega)
  have HP := hid hp
  have HS := hid hs
  have HZ := hid hz
  have HB := hid hb
  clear hp hs hz hb
  have hn0 : 0 < n := by omega
  by_cases h0 : sz 0 = 0
  · rw [h0] at hz0
    have H0 := hid h0
    clear h0
    go_enter Try.func6, Try.ntmps6
    go_wp2
    go_loopw [8] (fun i wr => ∃ k m : Nat, 1 ≤ k ∧ k ≤ n ∧ i = .int .i64 k ∧ TreeUp pz ss sz k ∧ wr = w.drewN m) (fun i _ => n - (intOf i).toNat)
    case atStart => exact ⟨1, 0, by omega, hn1, rfl, ⟨H0.out, fun p _ _ => by omega⟩, rfl⟩
    case round =>
      obtain ⟨k, m, hk1, hk2, rfl, hT, rfl⟩ := hrel
      have HT := hid hT
      clear hT
      by_cases hlt : k < n
      · have hpk := HP.out k hlt
        by_cases hq : 0 ≤ pz k ∧ pz k < k
        · obtain ⟨hq1, hq2⟩ := hq
          obtain ⟨q, hq⟩ := Int.eq_ofNat_of_zero_le hq1
          have HQ := hid hq
          rw [hq] at hpk hq1 hq2
          clear hq
          have hqk : q < k := by omega
          have hzk := HZ.out k hlt
          have hzq := HZ.out q (by omega)
          have hsk := HS.out k hlt
          have hsb := HB.out k hlt
          have hbq := HT.out.bound (fun p hp => HB.out p (by omega)) q (.inl hqk)
          have hb1 := hbq.1
          have hb2 : sz q ≤ 1099511627776 := by have := hbq.2; omega
          clear hbq
          by_cases he : sz k = sz q + ((ss k).size : Int)
          · have het : (sz k != sz q + ((ss k).size : Int)) = false := by simpa using he
            have HE := hid he
            clear he
            go_wp2
            go_quiet (fail)
            go_wp2
            go_roundw
            case rel => exact ⟨k + 1, _, by omega, by omega, by go_num, HT.out.succ (by rw [HQ.out]; omega) (by rw [HQ.out]; omega) (by rw [HQ.out]; exact HE.out), rfl⟩
            case measure => simp [intOf]; omega
          · have het : (sz k != sz q + ((ss k).size : Int)) = true := by simpa using he
            clear he
            go_wp2
            go_quiet (fail)
            go_wp2
            go_ret
            exact ⟨boolQ_no (by simp), m + nq, by simp⟩
        · by_cases hq0 : pz k < 0
          · clear hq
            go_wp2
            go_ret
            exact ⟨boolQ_no (by simp), _, rfl⟩
          · have hq1 : (k : Int) ≤ pz k := by omega
            clear hq
            go_wp2
            go_ret
            exact ⟨boolQ_no (by simp), _, rfl⟩
      · go_wp2
        go_ret
        refine ⟨boolQ_yes fun _ => ?_, m, rfl⟩
        have e : k = n := by omega
        rw [← e]
        exact HT.out
  · have h0' : (sz 0 != 0) = true := by simpa using h0
    go_enter Try.func6, Try.ntmps6
    go_wp2
    all_goals first
      | (go_ret; exact ⟨boolQ_no (by simp), 0, rfl⟩)
      | (exfalso; omega)

/-- zzTextHasSuffix where the suffix is there. -/
theorem suf11 (x y : ByteArray) (w : World) (s : ByteArray) (hsz : s.size = x.size + y.size) (hm : s.size ≤ 4398046511104) (hy : ∀ j (h : j < y.size) (h' : x.size + j < s.size), s[x.size + j] = y[j]) :
    Calls Try.prog 11 #[.string s, .string y] w fun e w' => e = .returned (.bool true) ∧ ∃ m, w' = w.drewN m := by
  have HY := hid hy
  have h1 : ¬ (s.size : Int) < (y.size : Int) := by omega
  have hd : (s.size : Int) - (y.size : Int) = (x.size : Int) := by omega
  have hsz1 : s.size ≤ x.size + y.size := by omega
  have hsz2 : x.size + y.size ≤ s.size := by omega
  clear hy hsz
  go_enter Try.func11, Try.ntmps11
  go_wp2
  go_loopw [6] (fun i wr => ∃ k m : Nat, k ≤ y.size ∧ i = .int .i64 k ∧ wr = w.drewN m) (fun i _ => y.size - (intOf i).toNat)
  case atStart => exact ⟨0, 0, Nat.zero_le _, rfl, rfl⟩
  case round =>
    obtain ⟨k, m, hk, rfl, rfl⟩ := hrel
    by_cases hlt : k < y.size
    · have hlt' : x.size + k < s.size := by omega
      have hne : ((s[x.size + k].toNat : Int) != (y[k].toNat : Int)) = false := by rw [HY.out k hlt hlt']; simp
      have hw : IntKind.i64.wrap ((x.size : Int) + (k : Int)) = ((x.size + k : Nat) : Int) := by rw [IntKind.wrap_i64]; omega
      generalize x.size + k = j at hlt' hne hw
      go_wp2
      go_quiet (fail)
      go_wp2
      go_roundw
      case rel => exact ⟨k + 1, m + nq, by omega, by go_num, by simp⟩
      case measure => simp [intOf]; omega
    · go_wp2
      go_ret
      exact ⟨rfl, m, rfl⟩
end Kt
end Go.Proofs.Qxb6623459a
