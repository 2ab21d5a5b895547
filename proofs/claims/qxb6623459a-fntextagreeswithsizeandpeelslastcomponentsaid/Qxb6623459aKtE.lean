import Derived.Test.Qxb6623459aKtD
namespace Go.Proofs.Qxb6623459a
open Go.RowKit
set_option linter.unusedVariables false
namespace Kt

set_option maxHeartbeats 1000000 in
theorem size13 (tb pb n : Nat) (pz : Nat → Int) (ss : Nat → ByteArray) (sz : Nat → Int) (w : World) (hT : TreeAt w tb pb n pz ss sz) (p : Nat) (la : ByteArray) (hp : p < n) (h0 : 0 ≤ sz p) (h1 : sz p ≤ 1099511627776) (hl : la.size ≤ 1048576) :
    Calls Try.prog 13 #[.pointer (some ⟨tb, 0, none⟩), .agg #[.int .i64 p, .string la]] w fun e w' => e = .returned (.int .i64 (sz p + la.size)) ∧ Below w.heap.size w w' := by
  have hT1 := hT.below (Nat.le_refl _) ((Below.refl w.heap.size w).alloc (Nat.le_refl _) (.cells #[.int .i64 p, .string la] 44))
  have c1 := hT1.paths
  have c2 := hT1.size p hp
  clear hT hT1
  go_enter Try.func13, Try.ntmps13
  go_wp2
  go_quiet (fail)
  go_wp2
  go_ret
  exact ⟨rfl, below_drewN ((Below.refl _ _).alloc (Nat.le_refl _) _) _⟩

theorem size10 (tb pb n : Nat) (pz : Nat → Int) (ss : Nat → ByteArray) (sz : Nat → Int) (w : World) (hT : TreeAt w tb pb n pz ss sz) (p : Nat) (la : ByteArray) (hp : p < n) (h0 : 0 ≤ sz p) (h1 : sz p ≤ 1099511627776) (hl : la.size ≤ 1048576) :
    Calls Try.prog 10 #[.pointer (some ⟨tb, 0, none⟩), .int .i64 p, .string la] w fun e w' => e = .returned (.int .i64 (sz p + la.size)) ∧ Below w.heap.size w w' := by
  go_enter Try.func10, Try.ntmps10
  go_wp2_with (go_at_call 13; refine (size13 tb pb n pz ss sz _ hT p la hp h0 h1 hl).mono ?_; rintro e w' ⟨rfl, hb⟩)
  go_ret
  exact ⟨rfl, hb⟩
end Kt
end Go.Proofs.Qxb6623459a
