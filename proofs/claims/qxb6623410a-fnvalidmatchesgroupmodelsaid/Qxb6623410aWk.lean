import Derived.Test.Qxb6623410aRows
import Derived.Test.Qxb6623410aPlain
import Derived.WalkKit
import Derived.Below
namespace Go.Proofs.Qxb6623410a
open Go.RowKit
set_option linter.unusedVariables false
namespace Uv

theorem ret_int {k : IntKind} {a b : Int} (h : a = b) : Ending.returned (.int k a) = .returned (.int k b) := by rw [h]
theorem ret_bool {a b : Bool} (h : a = b) : Ending.returned (.bool a) = .returned (.bool b) := by rw [h]

theorem bytes_yes (s : ByteArray) (w : World) (h : s.size ≤ 1048576) :
    Calls Try.prog 4 #[.string s] w fun e w' => e = .returned (.bool true) ∧ w' = w := by
  have h0 : ¬ (1048576 : Int) < (s.size : Int) := by omega
  go_enter Try.func4, Try.ntmps4
  go_wp2
  go_ret
  exact ⟨rfl, rfl⟩

theorem bytes_no (s : ByteArray) (w : World) (h : ¬ s.size ≤ 1048576) :
    Calls Try.prog 4 #[.string s] w fun e w' => e = .returned (.bool false) ∧ w' = w := by
  have h0 : (1048576 : Int) < (s.size : Int) := by omega
  go_enter Try.func4, Try.ntmps4
  go_wp2
  go_ret
  exact ⟨rfl, rfl⟩

theorem want_any (k : Nat) (w : World) (h : k ≤ 4) :
    Calls Try.prog 7 #[.int .i64 (k : Int)] w fun e w' => e = .returned (.int .i64 (want k : Nat)) ∧ w' = w := by
  have : k = 0 ∨ k = 1 ∨ k = 2 ∨ k = 3 ∨ k = 4 := by omega
  rcases this with rfl | rfl | rfl | rfl | rfl
  all_goals
    go_enter Try.func7, Try.ntmps7
    go_wp2
    go_ret
    exact ⟨rfl, rfl⟩

theorem or32 : ∀ c : Fin 256, (decide (97 ≤ bits .or .u8 (c.val : Int) 32) && decide (bits .or .u8 (c.val : Int) 32 ≤ 102)) = ((decide (97 ≤ c.val) && decide (c.val ≤ 102)) || (decide (65 ≤ c.val) && decide (c.val ≤ 70))) := by
  decide +kernel

theorem or32' (c : Nat) (h : c < 256) : (97 ≤ bits .or .u8 (c : Int) 32 ∧ bits .or .u8 (c : Int) 32 ≤ 102) ↔ ((97 ≤ c ∧ c ≤ 102) ∨ (65 ≤ c ∧ c ≤ 70)) := by
  have := or32 ⟨c, h⟩
  rw [Bool.eq_iff_iff] at this
  simpa using this

theorem hexB_iff (c : Nat) : hexB c = true ↔ ((48 ≤ c ∧ c ≤ 57) ∨ (97 ≤ c ∧ c ≤ 102) ∨ (65 ≤ c ∧ c ≤ 70)) := by
  simp [hexB]; omega

theorem hex_any (c : Nat) (w : World) (h : c < 256) :
    Calls Try.prog 8 #[.int .u8 (c : Int)] w fun e w' => e = .returned (.bool (hexB c)) ∧ w' = w := by
  have HO : Hid ((97 ≤ bits .or .u8 (c : Int) 32 ∧ bits .or .u8 (c : Int) 32 ≤ 102) ↔ ((97 ≤ c ∧ c ≤ 102) ∨ (65 ≤ c ∧ c ≤ 70))) := or32' c h
  go_enter Try.func8, Try.ntmps8
  go_wp2
  all_goals
    go_ret
    refine ⟨ret_bool ?_, rfl⟩
    have ho := HO.out
    generalize bits BinOp.or IntKind.u8 (c : Int) 32 = o at *
    rw [Bool.eq_iff_iff, hexB_iff]
    simp
    omega

def VP (s : ByteArray) : Prop := s.size = 36 ∧ ∀ i (h : i < s.size), okAt i s[i].toNat = true

theorem ok_dash (i c : Nat) (h : i = 8 ∨ i = 13 ∨ i = 18 ∨ i = 23) : okAt i c = true ↔ c = 45 := by
  rcases h with rfl | rfl | rfl | rfl <;> simp [okAt, dashAt]
theorem ok_hex (i c : Nat) (h : ¬ (i = 8 ∨ i = 13 ∨ i = 18 ∨ i = 23)) : okAt i c = true ↔ ((48 ≤ c ∧ c ≤ 57) ∨ (97 ≤ c ∧ c ≤ 102) ∨ (65 ≤ c ∧ c ≤ 70)) := by
  have : dashAt i = false := by simp [dashAt]; omega
  rw [← hexB_iff]
  simp [okAt, this]

theorem vp_no (s : ByteArray) (k : Nat) (h : k < s.size) (hn : ¬ okAt k s[k].toNat = true) : ¬ VP s := fun hv => hn (hv.2 k h)

def Ans (s : ByteArray) (e : Ending) : Prop := ∃ r, e = .returned (.bool r) ∧ (r = true ↔ VP s)
theorem ans_no (s : ByteArray) (h : ¬ VP s) : Ans s (.returned (.bool false)) := ⟨false, rfl, by simp [h]⟩
theorem ans_yes (s : ByteArray) (h : VP s) : Ans s (.returned (.bool true)) := ⟨true, rfl, by simp [h]⟩
theorem all_succ {s : ByteArray} {k : Nat} (h : k < s.size) (ha : ∀ j (h : j < s.size), j < k → okAt j s[j].toNat = true) (hk : okAt k s[k].toNat = true) : ∀ j (h : j < s.size), j < k + 1 → okAt j s[j].toNat = true := by
  intro j hj hlt
  by_cases e : j = k
  · subst e; exact hk
  · exact ha j hj (by omega)

set_option maxHeartbeats 2000000 in
theorem valid_any (s : ByteArray) (w : World) :
    Calls Try.prog 5 #[.string s] w fun e w' => Ans s e ∧ w' = w := by
  by_cases h36 : s.size = 36
  · have HS : Hid (s.size = 36) := h36
    have t36 : ((s.size : Int) != 36) = false := by simp; omega
    clear h36
    have hle : s.size ≤ 36 := by rw [HS.out]; omega
    have hge : 36 ≤ s.size := by rw [HS.out]; omega
    go_enter Try.func5, Try.ntmps5
    go_wp2
    go_loop [3] (fun i => ∃ k : Nat, k ≤ s.size ∧ i = .int .i64 k ∧ ∀ j (h : j < s.size), j < k → okAt j s[j].toNat = true) (fun i => s.size - (intOf i).toNat)
    case atStart => exact ⟨0, Nat.zero_le _, rfl, fun j _ h => by omega⟩
    case round =>
      obtain ⟨k, hk, rfl, hall⟩ := hrel
      have HA : Hid (∀ j (h : j < s.size), j < k → okAt j s[j].toNat = true) := hall
      clear hall
      by_cases hlt : k < s.size
      · by_cases hd : k = 8 ∨ k = 13 ∨ k = 18 ∨ k = 23
        · have HD : Hid (okAt k s[k].toNat = true ↔ s[k].toNat = 45) := ok_dash k s[k].toNat hd
          have HK : Hid (k = 8 ∨ k = 13 ∨ k = 18 ∨ k = 23) := hd
          clear hd
          have hcl : ((s[k].toNat : Int) != 45) = true ∧ ¬ okAt k s[k].toNat = true ∨ ((s[k].toNat : Int) != 45) = false ∧ okAt k s[k].toNat = true := by
            by_cases hc : s[k].toNat = 45
            · exact .inr ⟨by simp; omega, HD.out.2 hc⟩
            · exact .inl ⟨by simp; omega, fun h => hc (HD.out.1 h)⟩
          rcases hcl with ⟨hc, hno⟩ | ⟨hc, hok⟩
          · have HN : Hid (¬ okAt k s[k].toNat = true) := hno
            clear hno HD
            rcases HK.out with hk' | hk' | hk' | hk'
            · have g8 : ((k : Int) == 8) = true := beq_iff_eq.2 (by omega)
              clear hk'
              go_wp2
              go_ret
              exact ⟨ans_no s (vp_no s k hlt HN.out), rfl⟩
            · have g8 : ((k : Int) == 8) = false := beq_eq_false_iff_ne.2 (by omega)
              have g13 : ((k : Int) == 13) = true := beq_iff_eq.2 (by omega)
              clear hk'
              go_wp2
              go_ret
              exact ⟨ans_no s (vp_no s k hlt HN.out), rfl⟩
            · have g8 : ((k : Int) == 8) = false := beq_eq_false_iff_ne.2 (by omega)
              have g13 : ((k : Int) == 13) = false := beq_eq_false_iff_ne.2 (by omega)
              have g18 : ((k : Int) == 18) = true := beq_iff_eq.2 (by omega)
              clear hk'
              go_wp2
              go_ret
              exact ⟨ans_no s (vp_no s k hlt HN.out), rfl⟩
            · have g8 : ((k : Int) == 8) = false := beq_eq_false_iff_ne.2 (by omega)
              have g13 : ((k : Int) == 13) = false := beq_eq_false_iff_ne.2 (by omega)
              have g18 : ((k : Int) == 18) = false := beq_eq_false_iff_ne.2 (by omega)
              have g23 : ((k : Int) == 23) = true := beq_iff_eq.2 (by omega)
              clear hk'
              go_wp2
              go_ret
              exact ⟨ans_no s (vp_no s k hlt HN.out), rfl⟩
          · have HO : Hid (okAt k s[k].toNat = true) := hok
            clear hok HD
            rcases HK.out with hk' | hk' | hk' | hk'
            · have g8 : ((k : Int) == 8) = true := beq_iff_eq.2 (by omega)
              clear hk'
              go_wp2
              go_round
              case rel => exact ⟨k + 1, by omega, by go_num, all_succ hlt HA.out HO.out⟩
              case measure => simp [intOf]; omega
            · have g8 : ((k : Int) == 8) = false := beq_eq_false_iff_ne.2 (by omega)
              have g13 : ((k : Int) == 13) = true := beq_iff_eq.2 (by omega)
              clear hk'
              go_wp2
              go_round
              case rel => exact ⟨k + 1, by omega, by go_num, all_succ hlt HA.out HO.out⟩
              case measure => simp [intOf]; omega
            · have g8 : ((k : Int) == 8) = false := beq_eq_false_iff_ne.2 (by omega)
              have g13 : ((k : Int) == 13) = false := beq_eq_false_iff_ne.2 (by omega)
              have g18 : ((k : Int) == 18) = true := beq_iff_eq.2 (by omega)
              clear hk'
              go_wp2
              go_round
              case rel => exact ⟨k + 1, by omega, by go_num, all_succ hlt HA.out HO.out⟩
              case measure => simp [intOf]; omega
            · have g8 : ((k : Int) == 8) = false := beq_eq_false_iff_ne.2 (by omega)
              have g13 : ((k : Int) == 13) = false := beq_eq_false_iff_ne.2 (by omega)
              have g18 : ((k : Int) == 18) = false := beq_eq_false_iff_ne.2 (by omega)
              have g23 : ((k : Int) == 23) = true := beq_iff_eq.2 (by omega)
              clear hk'
              go_wp2
              go_round
              case rel => exact ⟨k + 1, by omega, by go_num, all_succ hlt HA.out HO.out⟩
              case measure => simp [intOf]; omega
        · have HD : Hid (okAt k s[k].toNat = true ↔ _) := ok_hex k s[k].toNat hd
          have d1 : ((k : Int) == 8) = false := by simp; omega
          have d2 : ((k : Int) == 13) = false := by simp; omega
          have d3 : ((k : Int) == 18) = false := by simp; omega
          have d4 : ((k : Int) == 23) = false := by simp; omega
          clear hd
          have hcls : (s[k].toNat : Int) < 48 ∨ ((48 : Int) ≤ s[k].toNat ∧ (s[k].toNat : Int) ≤ 57) ∨ ((57 : Int) < s[k].toNat ∧ (s[k].toNat : Int) < 65) ∨ ((65 : Int) ≤ s[k].toNat ∧ (s[k].toNat : Int) ≤ 70) ∨ ((70 : Int) < s[k].toNat ∧ (s[k].toNat : Int) < 97) ∨ ((97 : Int) ≤ s[k].toNat ∧ (s[k].toNat : Int) ≤ 102) ∨ (102 : Int) < s[k].toNat := by omega
          rcases hcls with hc | ⟨hc, hc'⟩ | ⟨hc, hc'⟩ | ⟨hc, hc'⟩ | ⟨hc, hc'⟩ | ⟨hc, hc'⟩ | hc
          all_goals
            go_wp2
            all_goals first
              | (go_ret
                 exact ⟨ans_no s (vp_no s k hlt (fun h => by have := HD.out.1 h; omega)), rfl⟩)
              | (go_round
                 case rel => exact ⟨k + 1, by omega, by go_num, all_succ hlt HA.out (HD.out.2 (by omega))⟩
                 case measure => simp [intOf]; omega)
              | (rename_i hq; simp at hq; exfalso; omega)
      · go_wp2
        go_ret
        exact ⟨ans_yes s ⟨HS.out, fun i h => HA.out i h (by omega)⟩, rfl⟩
  · have t36 : ((s.size : Int) != 36) = true := by simp; omega
    go_enter Try.func5, Try.ntmps5
    go_wp2
    go_ret
    exact ⟨ans_no s (by simp [VP, h36]), rfl⟩

theorem drop_at (s : ByteArray) (i : Nat) (h : i < s.size) : s.data.toList.drop i = s[i] :: s.data.toList.drop (i + 1) := by
  rw [List.drop_eq_getElem_cons (by simpa using h)]
  rfl
theorem grun_dash_yes (k n : Nat) (c : UInt8) (l : List UInt8) (hc : c.toNat = 45) (hk : k < 4) (hn : n = want k) : grun k n (c :: l) = grun (k + 1) 0 l := by
  have : ¬ 4 ≤ k := by omega
  simp [grun, hc, this, hn]
theorem grun_dash_late (k n : Nat) (c : UInt8) (l : List UInt8) (hc : c.toNat = 45) (hk : 4 ≤ k) : grun k n (c :: l) = false := by
  simp [grun, hc, hk]
theorem grun_dash_off (k n : Nat) (c : UInt8) (l : List UInt8) (hc : c.toNat = 45) (hn : ¬ n = want k) : grun k n (c :: l) = false := by
  simp [grun, hc, hn]
theorem grun_hex_yes (k n : Nat) (c : UInt8) (l : List UInt8) (hc : ¬ c.toNat = 45) (hh : hexB c.toNat = true) (hn : n + 1 ≤ want k) : grun k n (c :: l) = grun k (n + 1) l := by
  have : ¬ want k < n + 1 := by omega
  simp [grun, hc, hh, this]
theorem grun_hex_no (k n : Nat) (c : UInt8) (l : List UInt8) (hc : ¬ c.toNat = 45) (hh : hexB c.toNat = false) : grun k n (c :: l) = false := by
  simp [grun, hc, hh]
theorem grun_hex_long (k n : Nat) (c : UInt8) (l : List UInt8) (hc : ¬ c.toNat = 45) (hn : want k < n + 1) : grun k n (c :: l) = false := by
  simp [grun, hc, hn]
theorem want_le (k : Nat) : want k ≤ 12 := by unfold want; split <;> (try split) <;> omega

set_option maxHeartbeats 2000000 in
theorem group_any (s : ByteArray) (w : World) (hs : s.size ≤ 1048576) :
    Calls Try.prog 6 #[.string s] w fun e w' => e = .returned (.bool (grun 0 0 s.data.toList)) ∧ w' = w := by
  go_enter Try.func6, Try.ntmps6
  go_wp2
  go_loop [3, 4, 5] (fun a b c => ∃ k n i : Nat, i ≤ s.size ∧ k ≤ 4 ∧ n ≤ 12 ∧ a = .int .i64 k ∧ b = .int .i64 n ∧ c = .int .i64 i ∧ grun 0 0 s.data.toList = grun k n (s.data.toList.drop i)) (fun _ _ c => s.size - (intOf c).toNat)
  case atStart => exact ⟨0, 0, 0, Nat.zero_le _, by omega, by omega, rfl, rfl, rfl, by simp⟩
  case round =>
    obtain ⟨k, n, i, hi, hk, hn, rfl, rfl, rfl, hg⟩ := hrel
    have HG : Hid (grun 0 0 s.data.toList = grun k n (s.data.toList.drop i)) := hg
    clear hg
    have hwl := want_le k
    by_cases hlt : i < s.size
    · have HG' : Hid (grun 0 0 s.data.toList = grun k n (s[i] :: s.data.toList.drop (i + 1))) := by
        have := HG.out
        rw [drop_at s i hlt] at this
        exact this
      clear HG
      have hcb : s[i].toNat < 256 := s[i].toNat_lt
      by_cases hc : s[i].toNat = 45
      · have c1 : ((s[i].toNat : Int) == 45) = true := beq_iff_eq.2 (by omega)
        have HC : Hid (s[i].toNat = 45) := hc
        clear hc
        by_cases h4 : 4 ≤ k
        · have t4 : (4 : Int) ≤ (k : Int) := by omega
          go_wp2
          go_ret
          exact ⟨ret_bool (by rw [HG'.out, grun_dash_late k n _ _ HC.out h4]), rfl⟩
        · have t4 : ¬ (4 : Int) ≤ (k : Int) := by omega
          by_cases hw : n = want k
          · have t5 : ((n : Int) != (want k : Int)) = false := by simp; omega
            have HW : Hid (n = want k) := hw
            clear hw
            go_wp2_with (go_at_call 7; refine (want_any k _ hk).mono ?_; rintro e w' ⟨rfl, hw⟩; obtain rfl := hw.symm; clear hw)
            go_round
            case rel => exact ⟨k + 1, 0, i + 1, by omega, by omega, by omega, by go_num, rfl, by go_num, by rw [HG'.out, grun_dash_yes k n _ _ HC.out (by omega) HW.out]⟩
            case measure => simp [intOf]; omega
          · have t5 : ((n : Int) != (want k : Int)) = true := by simp; omega
            go_wp2_with (go_at_call 7; refine (want_any k _ hk).mono ?_; rintro e w' ⟨rfl, hw⟩; obtain rfl := hw.symm; clear hw)
            go_ret
            exact ⟨ret_bool (by rw [HG'.out, grun_dash_off k n _ _ HC.out hw]), rfl⟩
      · have c1 : ((s[i].toNat : Int) == 45) = false := beq_eq_false_iff_ne.2 (by omega)
        cases hh : hexB s[i].toNat
        · go_wp2_with (go_at_call 8; refine (hex_any s[i].toNat _ hcb).mono ?_; rintro e w' ⟨rfl, hw⟩; obtain rfl := hw.symm; clear hw)
          go_ret
          exact ⟨ret_bool (by rw [HG'.out, grun_hex_no k n _ _ hc hh]), rfl⟩
        · by_cases hw : want k < n + 1
          · have t5 : (want k : Int) < (n : Int) + 1 := by omega
            go_wp2_with (first
              | (go_at_call 8; refine (hex_any s[i].toNat _ hcb).mono ?_; rintro e w' ⟨rfl, hw⟩; obtain rfl := hw.symm; clear hw)
              | (go_at_call 7; refine (want_any k _ hk).mono ?_; rintro e w' ⟨rfl, hw⟩; obtain rfl := hw.symm; clear hw))
            go_ret
            exact ⟨ret_bool (by rw [HG'.out, grun_hex_long k n _ _ hc hw]), rfl⟩
          · have t5 : ¬ (want k : Int) < (n : Int) + 1 := by omega
            go_wp2_with (first
              | (go_at_call 8; refine (hex_any s[i].toNat _ hcb).mono ?_; rintro e w' ⟨rfl, hw⟩; obtain rfl := hw.symm; clear hw)
              | (go_at_call 7; refine (want_any k _ hk).mono ?_; rintro e w' ⟨rfl, hw⟩; obtain rfl := hw.symm; clear hw))
            go_round
            case rel => exact ⟨k, n + 1, i + 1, by omega, by omega, by omega, rfl, by go_num, by go_num, by rw [HG'.out, grun_hex_yes k n _ _ hc hh (by omega)]⟩
            case measure => simp [intOf]; omega
    · have HE : grun 0 0 s.data.toList = (k == 4 && n == 12) := by
        rw [HG.out, List.drop_of_length_le (by simp; omega)]; rfl
      have HE' : Hid (grun 0 0 s.data.toList = (k == 4 && n == 12)) := HE
      clear HE HG
      go_wp2
      all_goals
        go_ret
        refine ⟨ret_bool ?_, rfl⟩
        rw [HE'.out, Bool.eq_iff_iff]
        simp
        omega

theorem VP_iff (s : ByteArray) : VP s ↔ grun 0 0 s.data.toList = true := by
  rw [law]
  rfl

end Uv
end Go.Proofs.Qxb6623410a
