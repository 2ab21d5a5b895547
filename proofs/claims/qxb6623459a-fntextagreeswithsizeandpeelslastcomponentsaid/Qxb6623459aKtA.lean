import Derived.Test.Qxb6623459aRows
import Derived.WalkKit
import Derived.Below
import Derived.WalkSmall
import Derived.Deep.QuietTactic
import Derived.BigQuiet
namespace Go.Proofs.Qxb6623459a
open Go.RowKit
set_option linter.unusedVariables false
namespace Kt

theorem hid {p : Prop} (h : p) : Hid p := h
theorem ret_int {k : IntKind} {a b : Int} (h : a = b) : Ending.returned (.int k a) = .returned (.int k b) := by rw [h]
theorem ret_bool {a b : Bool} (h : a = b) : Ending.returned (.bool a) = .returned (.bool b) := by rw [h]

/-- The call handed back a bool of which Q holds. -/
def BoolQ (Q : Bool → Prop) (e : Ending) : Prop := ∃ r, e = .returned (.bool r) ∧ Q r

/-- A slice of strings, as the walk reads it: nil, or cells in a row. -/
def StrRow (w : World) (a : Option Addr) (len : Nat) (ss : List ByteArray) : Prop :=
  ss.length = len ∧ (len = 0 ∨ ∃ b o, a = some ⟨b, o, none⟩ ∧ ∀ i, i < len → w.cell? ⟨b, o + i, none⟩ = some (.string (ss.getD i ByteArray.empty)))

def sumLen (ss : List ByteArray) : Nat := (ss.map (·.size)).sum
theorem sumLen_take_succ (ss : List ByteArray) (k : Nat) (h : k < ss.length) : sumLen (ss.take (k + 1)) = sumLen (ss.take k) + (ss.getD k ByteArray.empty).size := by
  unfold sumLen
  rw [List.take_succ_eq_append_getElem h, List.map_append, List.sum_append]
  simp [List.getD, h]

set_option maxHeartbeats 1000000 in
theorem bytes4 (a0 : Option Addr) (l0 c0 : Nat) (a1 : Option Addr) (l1 c1 : Nat) (an : Option Addr) (ln cn : Nat) (ss : List ByteArray) (a3 : Option Addr) (l3 c3 : Nat) (a4 : Option Addr) (l4 c4 : Nat) (lb : Int) (lh : ByteArray) (lp pa : Int) (la : ByteArray) (w : World)
    (hn : StrRow w an ln ss) :
    Calls Try.prog 4 #[.slice a0 l0 c0, .slice a1 l1 c1, .slice an ln cn, .slice a3 l3 c3, .slice a4 l4 c4, .int .i64 lb, .string lh, .int .i64 lp, .int .i64 pa, .string la] w fun e w' => BoolQ (fun _ => True) e ∧ w' = w := by
  obtain ⟨hl, hn⟩ := hn
  have HL := hid hl
  clear hl
  rcases hn with rfl | ⟨b, o, rfl, hc⟩
  all_goals
    go_enter Try.func4, Try.ntmps4
    go_wp2
  all_goals try (go_ret; exact ⟨⟨_, rfl, trivial⟩, rfl⟩)
  · go_loop [21, 22] (fun z i => ∃ zn : Nat, i = .int .i64 0 ∧ z = .int .i64 zn ∧ zn ≤ 1048576) (fun _ _ => 0)
    case atStart => exact ⟨l0 + l1, rfl, by go_num, by omega⟩
    case round =>
      obtain ⟨zn, rfl, rfl, hz⟩ := hrel
      go_wp2
      all_goals (go_ret; exact ⟨⟨_, rfl, trivial⟩, rfl⟩)
  · go_loop [21, 22] (fun z i => ∃ k zn : Nat, k ≤ ln ∧ i = .int .i64 k ∧ z = .int .i64 zn ∧ zn ≤ 1048576) (fun _ i => ln - (intOf i).toNat)
    case atStart => exact ⟨0, l0 + l1 + ln, Nat.zero_le _, rfl, by go_num, by omega⟩
    case round =>
      obtain ⟨k, zn, hk, rfl, rfl, hz⟩ := hrel
      by_cases hlt : k < ln
      · have hck := hc k hlt
        generalize ss.getD k ByteArray.empty = sk at hck
        clear hc
        go_wp2
        all_goals first
          | (go_ret; exact ⟨⟨_, rfl, trivial⟩, rfl⟩)
          | (go_round
             case rel => exact ⟨k + 1, zn + sk.size, by omega, by go_num, by go_num, by omega⟩
             case measure => simp [intOf]; omega)
      · clear hc
        go_wp2
        all_goals (go_ret; exact ⟨⟨_, rfl, trivial⟩, rfl⟩)

theorem boolQ_no {Q : Bool → Prop} (h : Q false) : BoolQ Q (.returned (.bool false)) := ⟨_, rfl, h⟩
theorem boolQ_yes {Q : Bool → Prop} (h : Q true) : BoolQ Q (.returned (.bool true)) := ⟨_, rfl, h⟩

/-- What is known where zzTextBytesFit says yes. -/
def FitP (l0 l1 l3 l4 ln lh la : Nat) (ss : List ByteArray) : Prop := l0 ≤ 1048576 ∧ l1 ≤ 1048576 ∧ l3 ≤ 1048576 ∧ l4 ≤ 1048576 ∧ 16 * ln + lh + la + sumLen ss ≤ 1048576

set_option maxHeartbeats 1000000 in
theorem fit5 (a0 : Option Addr) (l0 c0 : Nat) (a1 : Option Addr) (l1 c1 : Nat) (an : Option Addr) (ln cn : Nat) (ss : List ByteArray) (a3 : Option Addr) (l3 c3 : Nat) (a4 : Option Addr) (l4 c4 : Nat) (lh la : ByteArray) (w : World)
    (hn : StrRow w an ln ss) :
    Calls Try.prog 5 #[.slice a0 l0 c0, .slice a1 l1 c1, .slice an ln cn, .slice a3 l3 c3, .slice a4 l4 c4, .string lh, .string la] w fun e w' => BoolQ (fun r => r = true → FitP l0 l1 l3 l4 ln lh.size la.size ss) e ∧ w' = w := by
  obtain ⟨hl, hn⟩ := hn
  have HL := hid hl
  clear hl
  by_cases hall : l0 ≤ 1048576 ∧ l1 ≤ 1048576 ∧ ln ≤ 1048576 ∧ l3 ≤ 1048576 ∧ l4 ≤ 1048576 ∧ lh.size ≤ 1048576 ∧ la.size ≤ 1048576
  · obtain ⟨g0, g1, g2, g3, g4, g5, g6⟩ := hall
    have t0 : ¬ (1048576 : Int) < (l0 : Int) := by omega
    have t1 : ¬ (1048576 : Int) < (l1 : Int) := by omega
    have t2 : ¬ (1048576 : Int) < (ln : Int) := by omega
    have t3 : ¬ (1048576 : Int) < (l3 : Int) := by omega
    have t4 : ¬ (1048576 : Int) < (l4 : Int) := by omega
    have t5 : ¬ (1048576 : Int) < (lh.size : Int) := by omega
    have t6 : ¬ (1048576 : Int) < (la.size : Int) := by omega
    rcases hn with rfl | ⟨b, o, rfl, hc⟩
    all_goals
      go_enter Try.func5, Try.ntmps5
      go_wp2
    all_goals try (go_ret; exact ⟨boolQ_no (by simp), rfl⟩)
    · go_loop [15, 16] (fun z i => ∃ zn : Nat, i = .int .i64 0 ∧ z = .int .i64 zn ∧ zn ≤ 1048576 ∧ zn = 8 * l0 + 8 * l1 + 8 * l3 + 8 * l4 + lh.size + la.size) (fun _ _ => 0)
      case atStart => exact ⟨8 * l0 + 8 * l1 + 8 * l3 + 8 * l4 + lh.size + la.size, rfl, by go_num, by omega, rfl⟩
      case round =>
        obtain ⟨zn, rfl, rfl, hz, hze⟩ := hrel
        have HZ := hid hze
        clear hze
        go_wp2
        go_ret
        refine ⟨boolQ_yes fun _ => ?_, rfl⟩
        have := HZ.out
        have e : ss = [] := List.eq_nil_of_length_eq_zero HL.out
        refine ⟨g0, g1, g3, g4, ?_⟩
        subst e
        simp [sumLen]
        omega
    · go_loop [15, 16] (fun z i => ∃ k zn : Nat, k ≤ ln ∧ i = .int .i64 k ∧ z = .int .i64 zn ∧ zn ≤ 1048576 ∧ zn = 8 * l0 + 8 * l1 + 8 * l3 + 8 * l4 + 16 * ln + lh.size + la.size + sumLen (ss.take k)) (fun _ i => ln - (intOf i).toNat)
      case atStart => exact ⟨0, 8 * l0 + 8 * l1 + 8 * l3 + 8 * l4 + 16 * ln + lh.size + la.size, Nat.zero_le _, rfl, by go_num, by omega, by simp [sumLen]⟩
      case round =>
        obtain ⟨k, zn, hk, rfl, rfl, hz, hze⟩ := hrel
        have HZ := hid hze
        clear hze
        by_cases hlt : k < ln
        · have hck := hc k hlt
          have HS := hid (sumLen_take_succ ss k (by rw [HL.out]; exact hlt))
          generalize ss.getD k ByteArray.empty = sk at hck HS
          clear hc
          go_wp2
          all_goals first
            | (go_ret; exact ⟨boolQ_no (by simp), rfl⟩)
            | (go_round
               case rel => exact ⟨k + 1, zn + sk.size, by omega, by go_num, by go_num, by omega, by rw [HS.out, HZ.out]; omega⟩
               case measure => simp [intOf]; omega)
        · clear hc
          go_wp2
          go_ret
          refine ⟨boolQ_yes fun _ => ?_, rfl⟩
          have := HZ.out
          rw [List.take_of_length_le (by rw [HL.out]; omega)] at this
          exact ⟨g0, g1, g3, g4, by omega⟩
  · clear hn
    go_enter Try.func5, Try.ntmps5
    go_wp2
    all_goals first
      | (go_ret; exact ⟨boolQ_no (by simp), rfl⟩)
      | (exfalso; simp at *; omega)
end Kt
end Go.Proofs.Qxb6623459a
