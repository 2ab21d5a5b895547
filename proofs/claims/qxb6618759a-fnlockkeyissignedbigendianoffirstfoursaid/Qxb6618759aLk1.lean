import Derived.Test.Qxb6618759aRows
import Derived.WalkKit
import Derived.Below
import Derived.Deep.QuietTactic
import Derived.BigQuiet
import Derived.WalkSmall
import Derived.Lib.EndianBits
namespace Go.Proofs.Qxb6618759a
open Go.RowKit
set_option linter.unusedVariables false

namespace Lk

theorem ret_int {k : IntKind} {a b : Int} (h : a = b) : Ending.returned (.int k a) = .returned (.int k b) := by rw [h]

theorem bytes_yes (a0 a1 : Option Addr) (l0 c0 l1 c1 : Nat) (w : World) (h : l0 + l1 ≤ 1048576) :
    Calls Try.prog 7 #[.slice a0 l0 c0, .slice a1 l1 c1] w fun e w' => e = .returned (.bool true) ∧ w' = w := by
  have h0 : ¬ (1048576 : Int) < (l0 : Int) := by omega
  have h1 : ¬ (1048576 : Int) < (l1 : Int) := by omega
  have h2 : ¬ (1048576 : Int) < (l0 : Int) + (l1 : Int) := by omega
  go_enter Try.func7, Try.ntmps7
  go_wp2
  go_ret
  exact ⟨rfl, rfl⟩

theorem bytes_no (a0 a1 : Option Addr) (l0 c0 l1 c1 : Nat) (w : World) (h0 : l0 ≤ 9223372036854775807) (h1 : l1 ≤ 9223372036854775807) (h : ¬ l0 + l1 ≤ 1048576) :
    Calls Try.prog 7 #[.slice a0 l0 c0, .slice a1 l1 c1] w fun e w' => e = .returned (.bool false) ∧ w' = w := by
  by_cases g0 : (1048576 : Int) < (l0 : Int)
  · go_enter Try.func7, Try.ntmps7
    go_wp2
    go_ret
    exact ⟨rfl, rfl⟩
  · by_cases g1 : (1048576 : Int) < (l1 : Int)
    · go_enter Try.func7, Try.ntmps7
      go_wp2
      go_ret
      exact ⟨rfl, rfl⟩
    · have g2 : (1048576 : Int) < (l0 : Int) + (l1 : Int) := by omega
      go_enter Try.func7, Try.ntmps7
      go_wp2
      go_ret
      exact ⟨rfl, rfl⟩

def head4 (b0 b1 b2 b3 : Int) : Int := b0 * 16777216 + b1 * 65536 + b2 * 256 + b3
def shead (b0 b1 b2 b3 : Int) : Int := if 128 ≤ b0 then head4 b0 b1 b2 b3 - 4294967296 else head4 b0 b1 b2 b3

set_option maxHeartbeats 400000 in
theorem signed (b0 b1 b2 b3 : Int) (w : World) (h0 : 0 ≤ b0) (h0' : b0 ≤ 255) (h1 : 0 ≤ b1) (h1' : b1 ≤ 255) (h2 : 0 ≤ b2) (h2' : b2 ≤ 255) (h3 : 0 ≤ b3) (h3' : b3 ≤ 255) :
    Calls Try.prog 8 #[.int .u8 b0, .int .u8 b1, .int .u8 b2, .int .u8 b3] w fun e w' => e = .returned (.int .i64 (shead b0 b1 b2 b3)) ∧ w' = w := by
  unfold shead
  by_cases hb : 128 ≤ b0
  · rw [if_pos hb]
    unfold head4
    go_enter Try.func8, Try.ntmps8
    go_wp2
    go_ret
    exact ⟨rfl, rfl⟩
  · rw [if_neg hb]
    unfold head4
    go_enter Try.func8, Try.ntmps8
    go_wp2
    go_ret
    exact ⟨rfl, rfl⟩

set_option maxHeartbeats 800000 in
theorem uint32 (g o n c : Nat) (b0 b1 b2 b3 : Int) (w : World) (hn : 4 ≤ n) (h0 : 0 ≤ b0) (h0' : b0 ≤ 255) (h1 : 0 ≤ b1) (h1' : b1 ≤ 255) (h2 : 0 ≤ b2) (h2' : b2 ≤ 255) (h3 : 0 ≤ b3) (h3' : b3 ≤ 255)
    (c0 : w.cell? ⟨g, o, none⟩ = some (.int .u8 b0)) (c1 : w.cell? ⟨g, o + 1, none⟩ = some (.int .u8 b1)) (c2 : w.cell? ⟨g, o + 2, none⟩ = some (.int .u8 b2)) (c3 : w.cell? ⟨g, o + 3, none⟩ = some (.int .u8 b3)) :
    Calls Try.prog 19 #[.agg #[], .slice (some ⟨g, o, none⟩) n c] w fun e w' => e = .returned (.int .u32 (head4 b0 b1 b2 b3)) ∧ Below w.heap.size w w' := by
  have i0 : 0 < n := by omega
  have i1 : (1 : Int) < (n : Int) := by omega
  have i2 : (2 : Int) < (n : Int) := by omega
  have i3 : (3 : Int) < (n : Int) := by omega
  have hg : g < w.heap.size := World.block_lt_of_cell? w _ c0
  have d0 : (w.alloc (.cells #[] 37)).cell? ⟨g, o, none⟩ = some (.int .u8 b0) := by rw [World.cell?_alloc_lt (h := hg)]; exact c0
  have d1 : (w.alloc (.cells #[] 37)).cell? ⟨g, o + 1, none⟩ = some (.int .u8 b1) := by rw [World.cell?_alloc_lt (h := hg)]; exact c1
  have d2 : (w.alloc (.cells #[] 37)).cell? ⟨g, o + 2, none⟩ = some (.int .u8 b2) := by rw [World.cell?_alloc_lt (h := hg)]; exact c2
  have d3 : (w.alloc (.cells #[] 37)).cell? ⟨g, o + 3, none⟩ = some (.int .u8 b3) := by rw [World.cell?_alloc_lt (h := hg)]; exact c3
  go_enter Try.func19, Try.ntmps19
  go_wp2
  go_quiet (fail)
  go_wp2
  go_ret
  refine ⟨?_, below_drewN ((Below.refl _ w).alloc (Nat.le_refl _) _) nq⟩
  simp (disch := omega) only [u32_or8, u32_or16, u32_or24]
  exact ret_int (by unfold head4; omega)

theorem lock15 (g o n c : Nat) (b0 b1 b2 b3 : Int) (w : World) (hn : 4 ≤ n) (h0 : 0 ≤ b0) (h0' : b0 ≤ 255) (h1 : 0 ≤ b1) (h1' : b1 ≤ 255) (h2 : 0 ≤ b2) (h2' : b2 ≤ 255) (h3 : 0 ≤ b3) (h3' : b3 ≤ 255)
    (c0 : w.cell? ⟨g, o, none⟩ = some (.int .u8 b0)) (c1 : w.cell? ⟨g, o + 1, none⟩ = some (.int .u8 b1)) (c2 : w.cell? ⟨g, o + 2, none⟩ = some (.int .u8 b2)) (c3 : w.cell? ⟨g, o + 3, none⟩ = some (.int .u8 b3)) :
    Calls Try.prog 15 #[.slice (some ⟨g, o, none⟩) n c] w fun e w' => e = .returned (.int .i32 (wrap32 (head4 b0 b1 b2 b3))) ∧ Below w.heap.size w w' := by
  go_enter Try.func15, Try.ntmps15
  go_wp2_with (go_at_call 19; refine (uint32 g o n c b0 b1 b2 b3 _ hn h0 h0' h1 h1' h2 h2' h3 h3' c0 c1 c2 c3).mono ?_; rintro e w' ⟨rfl, hb⟩)
  go_ret
  exact ⟨rfl, hb⟩

theorem lock9 (g o n c : Nat) (b0 b1 b2 b3 : Int) (w : World) (hn : 4 ≤ n) (h0 : 0 ≤ b0) (h0' : b0 ≤ 255) (h1 : 0 ≤ b1) (h1' : b1 ≤ 255) (h2 : 0 ≤ b2) (h2' : b2 ≤ 255) (h3 : 0 ≤ b3) (h3' : b3 ≤ 255)
    (c0 : w.cell? ⟨g, o, none⟩ = some (.int .u8 b0)) (c1 : w.cell? ⟨g, o + 1, none⟩ = some (.int .u8 b1)) (c2 : w.cell? ⟨g, o + 2, none⟩ = some (.int .u8 b2)) (c3 : w.cell? ⟨g, o + 3, none⟩ = some (.int .u8 b3)) :
    Calls Try.prog 9 #[.slice (some ⟨g, o, none⟩) n c] w fun e w' => e = .returned (.int .i32 (wrap32 (head4 b0 b1 b2 b3))) ∧ Below w.heap.size w w' := by
  go_enter Try.func9, Try.ntmps9
  go_wp2_with (go_at_call 15; refine (lock15 g o n c b0 b1 b2 b3 _ hn h0 h0' h1 h1' h2 h2' h3 h3' c0 c1 c2 c3).mono ?_; rintro e w' ⟨rfl, hb⟩)
  go_ret
  exact ⟨rfl, hb⟩
end Lk
end Go.Proofs.Qxb6618759a
