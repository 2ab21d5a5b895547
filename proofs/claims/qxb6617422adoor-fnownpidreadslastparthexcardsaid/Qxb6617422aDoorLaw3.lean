import Derived.Test.Qxb6617422aDoorOwn
import Derived.Test.Qxb6617422aDoorScan
namespace Go.Proofs.Qxb6617422aDoor
open Go.RowKit
set_option linter.unusedVariables false
namespace Pd

theorem bytes5_yes (a b : ByteArray) (w : World) (h : a.size + b.size ≤ 1048576) : Calls Tryd.prog 5 #[.string a, .string b] w fun e w' => e = .returned (.bool true) ∧ w' = w := by
  have h0 : ¬ (1048576 : Int) < (a.size : Int) := by omega
  have h1 : ¬ (1048576 : Int) < (b.size : Int) := by omega
  have h2 : ¬ (1048576 : Int) < (a.size : Int) + (b.size : Int) := by omega
  go_enter Tryd.func5, Tryd.ntmps5
  go_wp2
  go_ret
  exact ⟨rfl, rfl⟩

theorem bytes5_no (a b : ByteArray) (w : World) (h : ¬ a.size + b.size ≤ 1048576) : Calls Tryd.prog 5 #[.string a, .string b] w fun e w' => e = .returned (.bool false) ∧ w' = w := by
  by_cases g0 : (1048576 : Int) < (a.size : Int)
  · go_enter Tryd.func5, Tryd.ntmps5
    go_wp2
    go_ret
    exact ⟨rfl, rfl⟩
  · by_cases g1 : (1048576 : Int) < (b.size : Int)
    · go_enter Tryd.func5, Tryd.ntmps5
      go_wp2
      go_ret
      exact ⟨rfl, rfl⟩
    · have g2 : (1048576 : Int) < (a.size : Int) + (b.size : Int) := by omega
      go_enter Tryd.func5, Tryd.ntmps5
      go_wp2
      go_ret
      exact ⟨rfl, rfl⟩

def digI (c : Nat) : Int := match hexv c with | some d => (d : Int) | none => -1

theorem ret_int {k : IntKind} {a b : Int} (h : a = b) : Ending.returned (.int k a) = .returned (.int k b) := by rw [h]

theorem dig11 (c : Nat) (hc : c < 256) (w : World) : Calls Tryd.prog 11 #[.int .u8 (c : Int)] w fun e w' => e = .returned (.int .i64 (digI c)) ∧ w' = w := by
  by_cases h1 : 48 ≤ c ∧ c ≤ 57
  · have HX : Hid (digI c = (c : Int) - 48) := by unfold digI; rw [hexv_digit c h1.1 h1.2]; show ((c - 48 : Nat) : Int) = _; omega
    obtain ⟨h1, h2⟩ := h1
    go_enter Tryd.func11, Tryd.ntmps11
    go_wp2
    go_ret
    exact ⟨by rw [HX.out]; rfl, rfl⟩
  · by_cases h2 : 97 ≤ c ∧ c ≤ 102
    · have HX : Hid (digI c = (c : Int) - 97 + 10) := by unfold digI; rw [hexv_low c h2.1 h2.2]; show ((c - 87 : Nat) : Int) = _; omega
      obtain ⟨h2, h3⟩ := h2
      have n57 : (57 : Int) < (c : Int) := by omega
      clear h1
      go_enter Tryd.func11, Tryd.ntmps11
      go_wp2
      go_ret
      exact ⟨by rw [HX.out]; rfl, rfl⟩
    · by_cases h3 : 65 ≤ c ∧ c ≤ 70
      · have HX : Hid (digI c = (c : Int) - 65 + 10) := by unfold digI; rw [hexv_up c h3.1 h3.2]; show ((c - 55 : Nat) : Int) = _; omega
        obtain ⟨h3, h4⟩ := h3
        have n57 : (57 : Int) < (c : Int) := by omega
        have n97 : (c : Int) < 97 := by omega
        clear h1 h2
        go_enter Tryd.func11, Tryd.ntmps11
        go_wp2
        go_ret
        exact ⟨by rw [HX.out]; rfl, rfl⟩
      · have HX : Hid (digI c = -1) := by unfold digI; rw [hexv_none c h1 h2 h3]; rfl
        have hcl : (c : Int) < 48 ∨ ((57 : Int) < c ∧ (c : Int) < 65) ∨ ((70 : Int) < c ∧ (c : Int) < 97) ∨ (102 : Int) < c := by omega
        clear h1 h2 h3
        rcases hcl with h | ⟨h, h'⟩ | ⟨h, h'⟩ | h
        all_goals
          go_enter Tryd.func11, Tryd.ntmps11
          go_wp2
          go_ret
          exact ⟨by rw [HX.out]; rfl, rfl⟩

theorem at_list (s : ByteArray) (i : Nat) (h : i < s.size) : s.data.toList[i]? = some s[i] := by
  have h' : i < s.data.toList.length := by simpa using h
  rw [List.getElem?_eq_getElem h']
  rfl
theorem drop_list (s : ByteArray) (i : Nat) (h : i < s.size) : s.data.toList.drop i = s[i] :: s.data.toList.drop (i + 1) := by
  rw [List.drop_eq_getElem_cons (by simpa using h)]
  rfl
theorem byte_eq {c d : UInt8} (h : c.toNat = d.toNat) : c = d := UInt8.toNat_inj.1 h

theorem own_ret (l : List UInt8) (v : Nat) (b : Bool) (h : Reads l v b) (hv : v ≤ 2147483647) : OwnR l (.returned (.tuple #[.int .i64 (v : Int), .bool b])) := ⟨v, b, rfl, h, hv⟩
theorem reads_syn {l : List UInt8} {j : Nat} (hg : Good l j) (h : pr (l.drop (j + 2)) = (1, 0)) : Reads l 0 false := .inl ⟨j, hg, by rw [h], by rw [h]; rfl⟩
theorem reads_rng {l : List UInt8} {j : Nat} (hg : Good l j) (h : pr (l.drop (j + 2)) = (2, 2147483647)) : Reads l 2147483647 false := .inl ⟨j, hg, by rw [h], by rw [h]; rfl⟩
theorem reads_ok {l : List UInt8} {j : Nat} (hg : Good l j) (v : Nat) (h : pr (l.drop (j + 2)) = (0, v)) : Reads l v true := .inl ⟨j, hg, by rw [h], by rw [h]; rfl⟩
theorem own_rng (l : List UInt8) (h : Reads l 2147483647 false) : OwnR l (.returned (.tuple #[.int .i64 2147483647, .bool false])) := ⟨2147483647, false, rfl, h, Nat.le_refl _⟩
theorem own_int (l : List UInt8) (v : Nat) (a : Int) (ha : a = v) (h : Reads l v true) (hv : v ≤ 2147483647) : OwnR l (.returned (.tuple #[.int .i64 a, .bool true])) := ⟨v, true, by rw [ha], h, hv⟩

set_option maxHeartbeats 2000000 in
set_option maxRecDepth 100000 in
theorem spec7 (s : ByteArray) (hs : s.size ≤ 4194304) (w : World) : Calls Tryd.prog 7 #[.string s] w fun e w' => OwnR s.data.toList e ∧ w' = w := by
  go_enter Tryd.func7, Tryd.ntmps7
  go_wp2
  go_loop [4, 5] (fun a b => ∃ (k : Int) (i : Nat), i ≤ s.size ∧ a = .int .i64 k ∧ b = .int .i64 i ∧ Scan s.data.toList i k) (fun _ b => s.size - (intOf b).toNat)
  case atStart => exact ⟨-1, 0, Nat.zero_le _, rfl, rfl, Scan.start _⟩
  case round =>
    obtain ⟨k, i, hi, rfl, rfl, hsc⟩ := hrel
    have HSC := hid hsc
    clear hsc
    by_cases hlt : i < s.size
    · have HAT := hid (at_list s i hlt)
      by_cases h47 : s[i].toNat = 47
      · have t47 : ((s[i].toNat : Int) == 47) = true := beq_iff_eq.2 (by omega)
        have HN : Hid (Scan s.data.toList (i + 1) (-1)) := Scan.slash (by rw [HAT.out]; congr 1; exact byte_eq h47)
        clear h47
        go_wp2
        go_round
        case rel => exact ⟨-1, i + 1, by omega, rfl, by go_num, HN.out⟩
        case measure => simp [intOf]; omega
      · have t47 : ((s[i].toNat : Int) == 47) = false := beq_eq_false_iff_ne.2 (by omega)
        have H47 : Hid (s.data.toList[i]? ≠ some 47) := by
          rw [HAT.out]
          intro e
          exact h47 (by rw [Option.some.inj e]; rfl)
        by_cases h45 : s[i].toNat = 45
        · have t45 : ((s[i].toNat : Int) == 45) = true := beq_iff_eq.2 (by omega)
          by_cases hl1 : i + 1 < s.size
          · have HAT1 := hid (at_list s (i + 1) hl1)
            have tl : (i : Int) + 1 < (s.size : Int) := by omega
            by_cases h80 : s[i + 1].toNat = 80
            · have t80 : ((s[i + 1].toNat : Int) == 80) = true := beq_iff_eq.2 (by omega)
              have HN : Hid (Scan s.data.toList (i + 1) (i : Int)) := Scan.hit ⟨by rw [HAT.out]; congr 1; exact byte_eq h45, by rw [HAT1.out]; congr 1; exact byte_eq h80⟩
              clear h47 h45 h80
              go_wp2
              go_round
              case rel => exact ⟨i, i + 1, by omega, rfl, by go_num, HN.out⟩
              case measure => simp [intOf]; omega
            · have t80 : ((s[i + 1].toNat : Int) == 80) = false := beq_eq_false_iff_ne.2 (by omega)
              have HN : Hid (Scan s.data.toList (i + 1) k) := HSC.out.pass H47.out (fun hp => by
                have := hp.2
                rw [HAT1.out] at this
                exact h80 (by rw [Option.some.inj this]; rfl))
              clear h47 h45 h80
              go_wp2
              go_round
              case rel => exact ⟨k, i + 1, by omega, rfl, by go_num, HN.out⟩
              case measure => simp [intOf]; omega
          · have tl : ¬ (i : Int) + 1 < (s.size : Int) := by omega
            have HN : Hid (Scan s.data.toList (i + 1) k) := HSC.out.pass H47.out (fun hp => by
              have := at_lt hp.2
              simp at this
              omega)
            clear h47 h45
            go_wp2
            go_round
            case rel => exact ⟨k, i + 1, by omega, rfl, by go_num, HN.out⟩
            case measure => simp [intOf]; omega
        · have t45 : ((s[i].toNat : Int) == 45) = false := beq_eq_false_iff_ne.2 (by omega)
          have HN : Hid (Scan s.data.toList (i + 1) k) := HSC.out.pass H47.out (fun hp => by
            have := hp.1
            rw [HAT.out] at this
            exact h45 (by rw [Option.some.inj this]; rfl))
          clear h47 h45
          go_wp2
          go_round
          case rel => exact ⟨k, i + 1, by omega, rfl, by go_num, HN.out⟩
          case measure => simp [intOf]; omega
    · have hfin : Scan s.data.toList s.data.toList.length k := by
        have e : i = s.data.toList.length := by simp; omega
        rw [← e]
        exact HSC.out
      rcases hfin.done with ⟨rfl, hbare⟩ | ⟨j, rfl, hg, hj2⟩
      · have HR := hid (own_ret s.data.toList 0 false (.inr ⟨hbare, rfl, rfl⟩) (by omega))
        clear hfin hbare HSC
        go_wp2
        go_ret2
        exact ⟨HR.out, rfl⟩
      · have hjs : j + 2 ≤ s.size := by simpa using hj2
        have HG := hid hg
        clear hfin HSC hg hj2
        have hml := extract_list s (j + 2)
        have hms : (s.extract (j + 2) s.size).size ≤ s.size := by rw [extract_len]; omega
        obtain ⟨M, hM⟩ : ∃ M, s.extract (j + 2) s.size = M := ⟨_, rfl⟩
        rw [hM] at hml hms
        have HML := hid hml
        clear hml
        by_cases hm0 : M.size = 0
        · have tm : ((M.size : Int) == 0) = true := beq_iff_eq.2 (by omega)
          have he : M.data.toList = [] := List.eq_nil_of_length_eq_zero (by simpa using hm0)
          have HR := hid (own_ret s.data.toList 0 false (reads_syn HG.out (by rw [← HML.out, he]; rfl)) (by omega))
          clear hm0 he
          go_wp2
          go_ret2
          exact ⟨HR.out, rfl⟩
        · have tm : ((M.size : Int) == 0) = false := beq_eq_false_iff_ne.2 (by omega)
          have hpr : pr (s.data.toList.drop (j + 2)) = ph 0 M.data.toList := by
            rw [← HML.out, pr, if_neg]
            intro e
            apply hm0
            have := congrArg List.length e
            simpa using this
          have HPR := hid hpr
          clear hm0 hpr
          go_wp2
          go_loop [7, 8] (fun a b => ∃ (i acc : Nat) (x : Int), i ≤ M.size ∧ a = .int .u64 x ∧ b = .int .i64 i ∧ Hid (x = (acc : Int) ∧ acc ≤ 2147483647 ∧ ph 0 M.data.toList = ph acc (M.data.toList.drop i))) (fun _ b => M.size - (intOf b).toNat)
          case atStart => exact ⟨0, 0, 0, Nat.zero_le _, rfl, rfl, rfl, by omega, rfl⟩
          case round =>
            obtain ⟨i, acc, x, hi, rfl, rfl, hh⟩ := hrel
            obtain ⟨hx, hacc, hdec⟩ := hh.out
            clear hh
            have x0 : 0 ≤ x := by omega
            have x1 : x ≤ 2147483647 := by omega
            by_cases hlt : i < M.size
            · have hdec' := hdec
              rw [drop_list M i hlt] at hdec'
              have hcb : M[i].toNat < 256 := M[i].toNat_lt
              cases hv : hexv M[i].toNat with
              | none =>
                have HD : Hid (digI M[i].toNat = -1) := by unfold digI; rw [hv]; rfl
                have HR := hid (own_ret s.data.toList 0 false (reads_syn HG.out (HPR.out.trans (hdec'.trans (ph_bad acc _ _ hv)))) (by omega))
                clear hdec hdec' hacc hx hv
                go_wp2_with (go_at_call 11; refine (dig11 M[i].toNat hcb _).mono ?_; rintro e w' ⟨rfl, hw⟩; obtain rfl := hw.symm; clear hw; rw [HD.out])
                go_ret2
                exact ⟨HR.out, rfl⟩
              | some d =>
                have hd16 := hexv_lt _ _ hv
                have HD : Hid (digI M[i].toNat = (d : Int)) := by unfold digI; rw [hv]; rfl
                by_cases hov : 2147483647 < acc * 16 + d
                · have iov : (2147483647 : Int) < x * 16 + (d : Int) := by omega
                  have HR := hid (own_rng s.data.toList (reads_rng HG.out (HPR.out.trans (hdec'.trans (ph_over acc _ _ d hv hov)))))
                  clear hdec hdec' hacc hx hv hov
                  go_wp2_with (go_at_call 11; refine (dig11 M[i].toNat hcb _).mono ?_; rintro e w' ⟨rfl, hw⟩; obtain rfl := hw.symm; clear hw; rw [HD.out])
                  go_ret2
                  exact ⟨HR.out, rfl⟩
                · have iov : x * 16 + (d : Int) ≤ 2147483647 := by omega
                  have HN : Hid (x * 16 + (d : Int) = ((acc * 16 + d : Nat) : Int) ∧ acc * 16 + d ≤ 2147483647 ∧ ph 0 M.data.toList = ph (acc * 16 + d) (M.data.toList.drop (i + 1))) := hid ⟨by omega, by omega, hdec'.trans (ph_go acc _ _ d hv hov)⟩
                  clear hdec hdec' hacc hx hv hov
                  go_wp2_with (go_at_call 11; refine (dig11 M[i].toNat hcb _).mono ?_; rintro e w' ⟨rfl, hw⟩; obtain rfl := hw.symm; clear hw; rw [HD.out])
                  go_round
                  case rel => exact ⟨i + 1, _, _, by omega, rfl, by go_num, HN⟩
                  case measure => simp [intOf]; omega
            · have hd0 : ph 0 M.data.toList = (0, acc) := by rw [hdec, List.drop_eq_nil_of_le (by simp; omega)]; rfl
              have HR := hid (own_int s.data.toList acc x hx (reads_ok HG.out acc (HPR.out.trans hd0)) hacc)
              clear hdec hacc hx hd0
              go_wp2
              go_ret2
              exact ⟨HR.out, rfl⟩

theorem joined (a b : ByteArray) : (a ++ (⟨#[47]⟩ : ByteArray) ++ b).data.toList = a.data.toList ++ 47 :: b.data.toList := by simp

set_option maxHeartbeats 1000000 in
theorem walk3 (a0 a1 : ByteArray) (w : World) (he : Errs w) : Calls Tryd.prog 3 #[.string a0, .string a1] w fun e w' => e = .returned (.bool true) ∧ Below w.heap.size w w' := by
  have HE := hid he
  clear he
  by_cases h : a0.size + a1.size ≤ 1048576
  · have t0 : ¬ (1048576 : Int) < (a0.size : Int) := by omega
    have t1 : ¬ (1048576 : Int) - (a0.size : Int) < (a1.size : Int) := by omega
    go_enter Tryd.func3, Tryd.ntmps3
    go_wp2_with (go_at_call 5; refine (bytes5_yes a0 a1 _ h).mono ?_; rintro e w' ⟨rfl, hw⟩; obtain rfl := hw.symm; clear hw)
    refine (own6 a0 (by omega) w HE.out).mono ?_
    rintro e w1 ⟨⟨v, b, rfl, hr, hv⟩, hb1⟩
    have HR := hid hr
    have HE1 := hid (HE.out.below (Nat.le_refl _) hb1)
    have HB1 := hid hb1
    clear hr hb1
    go_wp2_with fail
    have hj := joined a1 a0
    have hjs : (a1 ++ (⟨#[47]⟩ : ByteArray) ++ a0).size ≤ 4194304 := by
      rw [ByteArray.size_append, ByteArray.size_append]
      show a1.size + 1 + a0.size ≤ _
      omega
    generalize a1 ++ (⟨#[47]⟩ : ByteArray) ++ a0 = J at *
    refine (own6 J hjs w1 HE1.out).mono ?_
    rintro e w2 ⟨⟨v', b', rfl, hr', hv'⟩, hb2⟩
    rw [hj] at hr'
    obtain ⟨rfl, rfl⟩ := hr'.uniq (HR.out.ahead a1.data.toList a0.data.toList)
    have HB2 := hid (HB1.out.trans (hb2.mono HB1.out.size))
    clear hr' hb2 hj hjs HB1 HE1
    go_wp2_with fail
    refine (spec7 a0 (by omega) w2).mono ?_
    rintro e w3 ⟨⟨v'', b'', rfl, hr'', hv''⟩, hw⟩
    obtain rfl := hw.symm
    obtain ⟨rfl, rfl⟩ := hr''.uniq HR.out
    clear hw hr'' HR
    go_wp2_with fail
    go_ret
    exact ⟨rfl, HB2.out⟩
  · go_enter Tryd.func3, Tryd.ntmps3
    go_wp2_with (go_at_call 5; refine (bytes5_no a0 a1 _ h).mono ?_; rintro e w' ⟨rfl, hw⟩; obtain rfl := hw.symm; clear hw)
    go_ret
    exact ⟨rfl, Below.refl _ _⟩
end Pd
end Go.Proofs.Qxb6617422aDoor
