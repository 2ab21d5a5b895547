import Derived.Test.Qxb6617422aDoorRows
import Derived.Test.Qxb6617422aDoorPlain
import Derived.WalkKit
import Derived.Below
import Derived.BigCall
import Derived.BigGuard
import Derived.Lib.ConvBytes
import Derived.Lib.Walk
import Derived.Lib.Strings
import Derived.Laws.Strings3
import Derived.Laws.Closers25
import Derived.Laws.Closers25b
namespace Go.Proofs.Qxb6617422aDoor
open Go.RowKit
set_option linter.unusedVariables false
namespace Pd

theorem hid {p : Prop} (h : p) : Hid p := h

/-- What internal/strconv.ParseUint(s, 16, 31) hands back for a reading. -/
def errV (code : Nat) : Value := if code = 0 then .nilIface else if code = 1 then .iface 41 (.int .i64 2) else .iface 41 (.int .i64 1)
def puTuple (r : Nat × Nat) : Value := .tuple #[.int .u64 (r.2 : Int), errV r.1]

theorem lower_any (c : Int) (w : World) : Calls Tryd.prog 20 #[.int .u8 c] w fun e w' => e = .returned (.int .u8 (bits .or .u8 c 32)) ∧ w' = w := by
  go_enter Tryd.func20, Tryd.ntmps20
  go_wp2
  go_ret
  exact ⟨rfl, rfl⟩

theorem lo_all : ∀ c : Fin 256, (97 ≤ bits .or .u8 (c.val : Int) 32 ∧ bits .or .u8 (c.val : Int) 32 ≤ 102) ↔ ((97 ≤ c.val ∧ c.val ≤ 102) ∨ (65 ≤ c.val ∧ c.val ≤ 70)) := by decide +kernel
theorem lo_val : ∀ c : Fin 256, ((97 ≤ c.val ∧ c.val ≤ 102) → bits .or .u8 (c.val : Int) 32 = c.val) ∧ ((65 ≤ c.val ∧ c.val ≤ 70) → bits .or .u8 (c.val : Int) 32 = c.val + 32) := by decide +kernel
theorem lo_95 : bits .or .u8 95 32 = 127 := by decide +kernel

theorem ret2_eq {a b c d : Value} (h1 : a = c) (h2 : b = d) : Ending.returned (.tuple #[a, b]) = .returned (.tuple #[c, d]) := by rw [h1, h2]
theorem fin_ok (r : Nat × Nat) (v : Nat) (h : r = (0, v)) : puTuple r = .tuple #[.int .u64 (v : Int), .nilIface] := by rw [h]; rfl
theorem fin_syn (r : Nat × Nat) (h : r = (1, 0)) : puTuple r = .tuple #[.int .u64 0, .iface 41 (.int .i64 2)] := by rw [h]; rfl
theorem fin_rng (r : Nat × Nat) (h : r = (2, 2147483647)) : puTuple r = .tuple #[.int .u64 2147483647, .iface 41 (.int .i64 1)] := by rw [h]; rfl

set_option maxHeartbeats 8000000 in
set_option maxRecDepth 100000 in
/-- internal/strconv.ParseUint(s, 16, 31), s not empty. -/
theorem pu17 (t : ByteArray) (hne : t.size ≠ 0) (hmax : t.size ≤ 9223372036854775806) (w : World) :
    Calls Tryd.prog 17 #[.string t, .int .i64 16, .int .i64 31] w fun e w' => e = .returned (puTuple (ph 0 t.data.toList)) ∧ w' = Lib.bytesWorld w 5 t := by
  have hemp : t.toList.isEmpty = false := by
    rw [← decide_eq_emptyBytes]
    exact decide_eq_false (fun h => hne (by rw [h]; rfl))
  have hcv := Lib.run_convert_string_bytes (P := Tryd.prog) w 9 31 5 t (u := .string) Tryd.underlying9 Tryd.underlying31 Tryd.underlying5
  have hB : ∀ j, j < t.size → (Lib.bytesWorld w 5 t).cell? ⟨w.heap.size, j, none⟩ = some (.int .u8 (t.data.toList.getD j 0).toNat) := fun j hj => Lib.bytesWorld_cell w 5 t j hj
  obtain ⟨W1, hW1⟩ : ∃ W1, W1 = Lib.bytesWorld w 5 t := ⟨_, rfl⟩
  rw [← hW1] at hcv hB ⊢
  clear hW1
  obtain ⟨bs, hL⟩ : ∃ bs, bs = t.data.toList := ⟨_, rfl⟩
  have hLn : bs.length = t.size := by rw [hL, Lib.size_eq]
  rw [← hL] at hB ⊢
  clear hL
  have hmv : IntKind.u64.wrap (IntKind.u64.wrap 2147483648 - 1) = 2147483647 := by decide +kernel
  have HB := hid hB
  have HLN := hid hLn
  clear hB hLn
  go_enter Tryd.func17, Tryd.ntmps17
  go_wp2
  go_loop [12, 13, 101] (fun vu vn vi => ∃ (k acc : Nat) (a : Int), vu = .bool false ∧ vn = .int .u64 a ∧ vi = .int .i64 k ∧ k ≤ t.size ∧ Hid (a = (acc : Int) ∧ acc ≤ 2147483647 ∧ ph 0 bs = ph acc (bs.drop k)))
    (fun _ _ vi => t.size - (intOf vi).toNat)
  case atStart => exact ⟨0, 0, 0, rfl, rfl, rfl, by omega, rfl, by omega, rfl⟩
  case round =>
    obtain ⟨k, acc, a, rfl, rfl, rfl, hk, hh⟩ := hrel
    obtain ⟨ha, hacc, hdec⟩ := hh.out
    clear hh
    have a0 : 0 ≤ a := by omega
    have a1 : a ≤ 2147483647 := by omega
    by_cases hkn : k < t.size
    · have hc := HB.out k hkn
      have hdrop : bs.drop k = bs[k]'(by rw [HLN.out]; exact hkn) :: bs.drop (k + 1) := List.drop_eq_getElem_cons (by rw [HLN.out]; exact hkn)
      have hget : bs.getD k 0 = bs[k]'(by rw [HLN.out]; exact hkn) := by simp [List.getD, List.getElem?_eq_getElem (show k < bs.length by rw [HLN.out]; exact hkn)]
      rw [hdrop] at hdec
      rw [hget] at hc
      generalize bs[k]'(by rw [HLN.out]; exact hkn) = c at hc hdec
      have hc256 : c.toNat < 256 := c.toNat_lt
      clear hdrop hget
      by_cases hdig : 48 ≤ c.toNat ∧ c.toNat ≤ 57
      · obtain ⟨hd0, hd1⟩ := hdig
        have hx := hexv_digit c.toNat hd0 hd1
        by_cases hov : 2147483647 < acc * 16 + (c.toNat - 48)
        · have iov : (2147483647 : Int) < a * 16 + ((c.toNat : Int) - 48) := by omega
          have HF := hid (fin_rng _ (hdec.trans (ph_over acc c _ _ hx hov)))
          clear hov hdec hacc ha hx
          go_wp2
          go_ret2
          exact ⟨by rw [HF.out]; rfl, rfl⟩
        · have iov : a * 16 + ((c.toNat : Int) - 48) ≤ 2147483647 := by omega
          have HN : Hid (a * 16 + ((c.toNat : Int) - 48) = ((acc * 16 + (c.toNat - 48) : Nat) : Int) ∧ acc * 16 + (c.toNat - 48) ≤ 2147483647 ∧ ph 0 bs = ph (acc * 16 + (c.toNat - 48)) (bs.drop (k + 1))) := hid ⟨by omega, by omega, hdec.trans (ph_go acc c _ _ hx hov)⟩
          clear hov hdec hacc ha hx
          go_wp2
          go_round
          case rel => exact ⟨k + 1, _, _, rfl, rfl, by go_num, by omega, HN⟩
          case measure => simp [intOf]; omega
      · by_cases hlet : (97 ≤ c.toNat ∧ c.toNat ≤ 102) ∨ (65 ≤ c.toNat ∧ c.toNat ≤ 70)
        · obtain ⟨v, hv1, hv2, hlo, hx⟩ : ∃ v : Nat, 97 ≤ v ∧ v ≤ 102 ∧ bits .or .u8 (c.toNat : Int) 32 = (v : Int) ∧ hexv c.toNat = some (v - 87) := by
            have hl := lo_val ⟨c.toNat, hc256⟩
            rcases hlet with h | h
            · exact ⟨c.toNat, h.1, h.2, hl.1 h, hexv_low _ h.1 h.2⟩
            · exact ⟨c.toNat + 32, by omega, by omega, by rw [hl.2 h]; rfl, by rw [hexv_up _ h.1 h.2]; congr 1⟩
          have n57 : (57 : Int) < (c.toNat : Int) := by omega
          have b95 : ((c.toNat : Int) == 95) = false := beq_eq_false_iff_ne.2 (by omega)
          by_cases hov : 2147483647 < acc * 16 + (v - 87)
          · have iov : (2147483647 : Int) < a * 16 + ((v : Int) - 97 + 10) := by omega
            have HF := hid (fin_rng _ (hdec.trans (ph_over acc c _ _ hx hov)))
            clear hov hdec hacc ha hx hlet hdig
            go_wp2_with (go_at_call 20; refine (lower_any _ _).mono ?_; rintro e w' ⟨rfl, hw⟩; obtain rfl := hw.symm; clear hw)
            go_ret2
            exact ⟨by rw [HF.out]; rfl, rfl⟩
          · have iov : a * 16 + ((v : Int) - 97 + 10) ≤ 2147483647 := by omega
            have HN : Hid (a * 16 + ((v : Int) - 97 + 10) = ((acc * 16 + (v - 87) : Nat) : Int) ∧ acc * 16 + (v - 87) ≤ 2147483647 ∧ ph 0 bs = ph (acc * 16 + (v - 87)) (bs.drop (k + 1))) := hid ⟨by omega, by omega, hdec.trans (ph_go acc c _ _ hx hov)⟩
            clear hov hdec hacc ha hx hlet hdig
            go_wp2_with (go_at_call 20; refine (lower_any _ _).mono ?_; rintro e w' ⟨rfl, hw⟩; obtain rfl := hw.symm; clear hw)
            go_round
            case rel => exact ⟨k + 1, _, _, rfl, rfl, by go_num, by omega, HN⟩
            case measure => simp [intOf]; omega
        · have hx : hexv c.toNat = none := hexv_none _ hdig (fun h => hlet (.inl h)) (fun h => hlet (.inr h))
          have HF := hid (fin_syn _ (hdec.trans (ph_bad acc c _ hx)))
          have hlo := lo_all ⟨c.toNat, hc256⟩
          have hlo' : ¬ (97 ≤ bits .or .u8 (c.toNat : Int) 32 ∧ bits .or .u8 (c.toNat : Int) 32 ≤ 102) := fun h => hlet (hlo.1 h)
          have hb0 := bits_lo_u8 .or (c.toNat : Int) 32
          have hb1 := bits_hi_u8 .or (c.toNat : Int) 32
          have h95 : ((c.toNat : Int) == 95) = true ∨ ((c.toNat : Int) == 95) = false := by cases ((c.toNat : Int) == 95) <;> simp
          generalize hv : bits .or .u8 (c.toNat : Int) 32 = v at hlo' hb0 hb1
          have hcl : v < 97 ∨ (102 < v ∧ v ≤ 122) ∨ 122 < v := by omega
          have hd : (c.toNat : Int) < 48 ∨ (57 : Int) < (c.toNat : Int) := by omega
          clear hlo hlo' hdec hacc ha hx hlet hdig
          rcases hd with hd | hd <;> rcases hcl with hcl | ⟨hcl, hcl2⟩ | hcl <;> rcases h95 with h95 | h95
          all_goals
            go_wp2_with (go_at_call 20; refine (lower_any _ _).mono ?_; rintro e w' ⟨rfl, hw⟩; obtain rfl := hw.symm; clear hw)
            go_ret2
            exact ⟨by rw [HF.out]; rfl, rfl⟩
    · have hF : ph 0 bs = (0, acc) := by rw [hdec, List.drop_eq_nil_of_le (by rw [HLN.out]; omega)]; rfl
      have HF : Hid (puTuple (ph 0 bs) = .tuple #[.int .u64 a, .nilIface]) := hid (by rw [ha]; exact fin_ok _ acc hF)
      clear hF hdec hacc ha
      go_wp2
      go_ret2
      exact ⟨by rw [HF.out]; rfl, rfl⟩
end Pd
end Go.Proofs.Qxb6617422aDoor
