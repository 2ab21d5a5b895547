import Derived.Test.Qxb6617422aDoorOwn
import Derived.Test.Qxb6617422aDoorHex
import Derived.Lib.SlBytesRow
namespace Go.Proofs.Qxb6617422aDoor
open Go.RowKit
set_option linter.unusedVariables false
namespace Pd

theorem bytes8_yes (a : ByteArray) (n z : Int) (w : World) (h : a.size ≤ 1048576) : Calls Tryd.prog 8 #[.string a, .int .u32 n, .int .i64 z] w fun e w' => e = .returned (.bool true) ∧ w' = w := by
  have h0 : ¬ (1048576 : Int) < (a.size : Int) := by omega
  go_enter Tryd.func8, Tryd.ntmps8
  go_wp2
  go_ret
  exact ⟨rfl, rfl⟩

theorem bytes8_no (a : ByteArray) (n z : Int) (w : World) (h : ¬ a.size ≤ 1048576) : Calls Tryd.prog 8 #[.string a, .int .u32 n, .int .i64 z] w fun e w' => e = .returned (.bool false) ∧ w' = w := by
  have h0 : (1048576 : Int) < (a.size : Int) := by omega
  go_enter Tryd.func8, Tryd.ntmps8
  go_wp2
  go_ret
  exact ⟨rfl, rfl⟩

theorem row_some {w : World} {g : Nat} {cur : Array Value} {t : TypeId} (h : w.heap[g]? = some (.cells cur t (0, 0))) (j : Nat) (hj : j < cur.size) : ∃ u, w.cell? ⟨g, j, none⟩ = some u := by
  rw [cell_of_row w g j cur t (0, 0) h, Array.getElem?_eq_getElem hj]
  exact ⟨_, rfl⟩

/-- One byte more at the head. -/
theorem bytes_put {w : World} {B k : Nat} {c : UInt8} {l : List UInt8} {u : Value} (h : Lib.Bytes w B (k + 1) ⟨l.toArray⟩) (hu : w.cell? ⟨B, k, none⟩ = some u) : Lib.Bytes (w.setCell ⟨B, k, none⟩ (.int .u8 (c.toNat : Int))) B k ⟨(c :: l).toArray⟩ := by
  intro i hi
  cases i with
  | zero => exact World.cell?_setCell_same _ _ _ hu
  | succ i =>
    rw [World.cell?_setCell_other _ _ _ _ (by simp)]
    have hi' : i < (⟨l.toArray⟩ : ByteArray).size := by
      have : (i + 1) < (c :: l).toArray.size := hi
      show i < l.toArray.size
      simpa using this
    have := h i hi'
    rw [show k + (i + 1) = k + 1 + i by omega]
    rw [this]
    rfl

theorem slice_run (w : World) (B k : Nat) (hk : k < 8) : (Instr.sliceAt 30 (.pointer (some ⟨B, 0, none⟩)) (some (.int .i64 (k : Int))) none none).run Tryd.prog w = .ok (.slice (some ⟨B, k, none⟩) (8 - k) (8 - k)) w := by
  have ht : Tryd.prog.underlying 30 = some (.array (Tryd.prog.arrayLen 30) (Tryd.prog.elem 30)) := by kernel_rfl
  have e : Tryd.prog.arrayLen 30 = 8 := by kernel_rfl
  have e2 : Tryd.prog.elem 30 = 5 := by kernel_rfl
  rw [run_sliceAt_array_l w 30 ⟨B, 0, none⟩ ht .i64 k (by omega) (by rw [e]; omega), e, e2, Tryd.sizeOf5]
  have n8 : ¬ 8 = k := by omega
  simp only [slicedAt, Result.andThen, Int.toNat_natCast, if_neg n8, Nat.mul_one]
  rw [Go.WideShapes.add_plain, Nat.zero_add]

set_option maxHeartbeats 1000000 in
theorem hex9 (up : Bool) (n : Nat) (hn : n < 4294967296) (w : World) : Calls Tryd.prog 9 #[.int .u32 (n : Int), .bool up] w fun e w' => e = .returned (.string ⟨(hexs up n).toArray⟩) ∧ Below w.heap.size w w' := by
  by_cases h0 : n = 0
  · subst h0
    go_enter Tryd.func9, Tryd.ntmps9
    go_wp2
    go_ret
    exact ⟨rfl, Below.refl _ _⟩
  · have t0 : ((n : Int) == 0) = false := beq_eq_false_iff_ne.2 (by omega)
    have HH : Hid (hexs up n = hexl up 8 n) := by unfold hexs; rw [if_neg h0]; rfl
    have h1 : 1 ≤ n := by omega
    have HN : Hid (n < 4294967296) := hn
    have hn' : (n : Int) ≤ 4294967295 := by omega
    clear h0 hn
    go_enter Tryd.func9, Tryd.ntmps9
    go_wp2
    go_loopw [0, 6] (fun a i wr => ∃ (m k : Nat) (suf : List UInt8) (cur : Array Value), a = .int .u32 (m : Int) ∧ i = .int .i64 (k : Int) ∧ k ≤ 8 ∧ Hid (m < 16 ^ k ∧ hexl up 8 n = hexl up k m ++ suf ∧ suf.length = 8 - k) ∧ wr.heap[w.heap.size]? = some (.cells cur 30 (0, 0)) ∧ cur.size = 8 ∧ Lib.Bytes wr w.heap.size k ⟨suf.toArray⟩ ∧ Below w.heap.size w wr) (fun a _ _ => (intOf a).toNat)
    case atStart => exact ⟨n, 8, [], _, rfl, rfl, Nat.le_refl _, ⟨by have := HN.out; have e : (16 : Nat) ^ 8 = 4294967296 := by decide
                                                                     omega, by simp, rfl⟩, heap_alloc_new w _, rfl, fun i hi => absurd hi (Nat.not_lt_zero _), (Below.refl _ _).alloc (Nat.le_refl _) _⟩
    case round =>
      obtain ⟨m, k, suf, cur, rfl, rfl, hk, hh, hrow, hsz, hby, hbel⟩ := hrel
      obtain ⟨hm, hl, hs⟩ := hh.out
      clear hh
      have h16 : 16 ^ k ≤ 16 ^ 8 := Nat.pow_le_pow_right (by omega) hk
      have h17 : (16 : Nat) ^ 8 = 4294967296 := by decide
      have hmb : (m : Int) ≤ 4294967295 := by omega
      by_cases hm0 : m = 0
      · subst hm0
        have hsuf : hexl up 8 n = suf := by rw [hl, hexl_zero]; rfl
        have hk8 : k < 8 := by
          rcases Nat.lt_or_ge k 8 with h | h
          · exact h
          · exfalso
            have e : suf = [] := List.eq_nil_of_length_eq_zero (by omega)
            rw [e, hexl_step up 7 n (by omega)] at hsuf
            simp at hsuf
        have HF : Hid (hexs up n = suf) := HH.out.trans hsuf
        have hss : (⟨suf.toArray⟩ : ByteArray).size = 8 - k := by show suf.toArray.size = _; simpa using hs
        have hcv := Lib.run_convert_whole (P := Tryd.prog) wr 31 5 9 Tryd.underlying31 Tryd.underlying5 Tryd.underlying9 w.heap.size k ⟨suf.toArray⟩ hby (8 - k)
        rw [hss] at hcv
        have HB := hid hbel
        clear hl hs hm hsuf hby hrow hsz hbel h16 h17 hss
        have hsl := slice_run wr w.heap.size k hk8
        go_wp2
        go_ret
        exact ⟨by rw [HF.out]; rfl, HB.out⟩
      · obtain ⟨k, rfl⟩ : ∃ k', k = k' + 1 := by
          cases k with
          | zero => simp at hm; omega
          | succ k => exact ⟨k, rfl⟩
        have hq : m / 16 < 16 ^ k := by rw [Nat.pow_succ] at hm; omega
        have hd16 : m % 16 < 16 := Nat.mod_lt _ (by omega)
        have htn : (UInt8.ofNat (dch up (m % 16))).toNat = dch up (m % 16) := ofNat_toNat _ (dch_lt up _ hd16)
        obtain ⟨x, hx⟩ := row_some hrow k (by omega)
        have hfr := frozen_of_row wr w.heap.size k cur 30 hrow
        have HROW := hid (fun u => heap_setCell_same wr w.heap.size k cur 30 u hrow)
        have HSZ := hid hsz
        have HPUT : Hid (∀ v : Int, v = ((UInt8.ofNat (dch up (m % 16))).toNat : Int) → Lib.Bytes (wr.setCell ⟨w.heap.size, k, none⟩ (.int .u8 v)) w.heap.size k ⟨(UInt8.ofNat (dch up (m % 16)) :: suf).toArray⟩) := fun v hv => by rw [hv]; exact bytes_put hby hx
        have HN2 : Hid (m / 16 < 16 ^ k ∧ hexl up 8 n = hexl up k (m / 16) ++ (UInt8.ofNat (dch up (m % 16)) :: suf) ∧ (UInt8.ofNat (dch up (m % 16)) :: suf).length = 8 - k) := ⟨hq, by rw [hl, hexl_step up k m hm0]; simp, by simp; omega⟩
        have HB := hid hbel
        have hm1 : 1 ≤ m := by omega
        have HTN := hid htn
        clear hl hs hm hby hrow hsz hbel h16 h17 hm0 hq htn
        by_cases hlt : m % 16 < 10
        · have t10 : (m : Int) % 16 < 10 := by omega
          have HV : Hid (48 + (m : Int) % 16 = ((UInt8.ofNat (dch up (m % 16))).toNat : Int)) := by
            rw [HTN.out]
            unfold dch
            rw [if_pos hlt]
            show _ = _
            omega
          go_wp2
          go_roundw
          case rel => exact ⟨m / 16, k, _, _, by go_num, rfl, by omega, HN2, HROW.out _, by simp; exact HSZ.out, HPUT.out _ HV.out, HB.out.setCell (Nat.le_refl _) _⟩
          case measure => simp [intOf]; omega
        · have t10 : ¬ (m : Int) % 16 < 10 := by omega
          cases up
          · have HV : Hid (97 + (m : Int) % 16 - 10 = ((UInt8.ofNat (dch false (m % 16))).toNat : Int)) := by
              rw [HTN.out]
              unfold dch
              rw [if_neg hlt]
              show _ = (((if false = true then 65 + m % 16 - 10 else 97 + m % 16 - 10 : Nat)) : Int)
              rw [if_neg (by simp)]
              omega
            go_wp2
            go_roundw
            case rel => exact ⟨m / 16, k, _, _, by go_num, rfl, by omega, HN2, HROW.out _, by simp; exact HSZ.out, HPUT.out _ HV.out, HB.out.setCell (Nat.le_refl _) _⟩
            case measure => simp [intOf]; omega
          · have HV : Hid (65 + (m : Int) % 16 - 10 = ((UInt8.ofNat (dch true (m % 16))).toNat : Int)) := by
              rw [HTN.out]
              unfold dch
              rw [if_neg hlt, if_pos rfl]
              show _ = _
              omega
            go_wp2
            go_roundw
            case rel => exact ⟨m / 16, k, _, _, by go_num, rfl, by omega, HN2, HROW.out _, by simp; exact HSZ.out, HPUT.out _ HV.out, HB.out.setCell (Nat.le_refl _) _⟩
            case measure => simp [intOf]; omega

theorem join1 (a : ByteArray) (h : List UInt8) : (a ++ (⟨#[45, 80]⟩ : ByteArray) ++ ⟨h.toArray⟩).data.toList = a.data.toList ++ 45 :: 80 :: (List.replicate 0 48 ++ h) := by simp
theorem join2 (a : ByteArray) (k : Nat) (h : List UInt8) : (a ++ (⟨#[45, 80]⟩ : ByteArray) ++ ⟨(List.replicate k 48).toArray⟩ ++ ⟨h.toArray⟩).data.toList = a.data.toList ++ 45 :: 80 :: (List.replicate k 48 ++ h) := by simp
theorem pad_step (k : Nat) : (⟨(List.replicate k (48 : UInt8)).toArray⟩ ++ (⟨#[48]⟩ : ByteArray) : ByteArray) = ⟨(List.replicate (k + 1) (48 : UInt8)).toArray⟩ := by
  apply ByteArray.ext
  apply Array.toList_inj.1
  rw [ByteArray.data_append, Array.toList_append]
  show List.replicate k 48 ++ [48] = List.replicate (k + 1) 48
  rw [List.replicate_succ']

set_option maxHeartbeats 2000000 in
theorem walk4 (a0 : ByteArray) (n z : Int) (w : World) (hn : (Lit.int .u32 n).wf = true) (he : Errs w) : Calls Tryd.prog 4 #[.string a0, .int .u32 n, .int .i64 z] w fun e w' => e = .returned (.bool true) ∧ Below w.heap.size w w' := by
  have HE := hid he
  clear he
  by_cases h : a0.size ≤ 1048576
  · have t0 : ¬ (1048576 : Int) < (a0.size : Int) := by omega
    by_cases hz0 : z < 0
    · go_enter Tryd.func4, Tryd.ntmps4
      go_wp2_with (go_at_call 8; refine (bytes8_yes a0 _ _ _ h).mono ?_; rintro e w' ⟨rfl, hw⟩; obtain rfl := hw.symm; clear hw)
      go_ret
      exact ⟨rfl, Below.refl _ _⟩
    by_cases hz1 : 64 < z
    · go_enter Tryd.func4, Tryd.ntmps4
      go_wp2_with (go_at_call 8; refine (bytes8_yes a0 _ _ _ h).mono ?_; rintro e w' ⟨rfl, hw⟩; obtain rfl := hw.symm; clear hw)
      go_ret
      exact ⟨rfl, Below.refl _ _⟩
    obtain ⟨zz, rfl⟩ := Int.eq_ofNat_of_zero_le (by omega : 0 ≤ z)
    obtain ⟨m, rfl, hm⟩ : ∃ m : Nat, n = m ∧ m < 4294967296 := by
      have hb : 0 ≤ n ∧ n ≤ 4294967295 := by
        have := hn
        simp [Lit.wf, IntKind.min, IntKind.max, IntKind.bits, IntKind.signed] at this
        omega
      exact ⟨n.toNat, by omega, by omega⟩
    have HM := hid hm
    have hmi : (m : Int) ≤ 4294967295 := by omega
    clear hn hm
    go_enter Tryd.func4, Tryd.ntmps4
    go_wp2_with (go_at_call 8; refine (bytes8_yes a0 _ _ _ h).mono ?_; rintro e w' ⟨rfl, hw⟩; obtain rfl := hw.symm; clear hw)
    go_loop [7, 8] (fun a b => ∃ k : Nat, k ≤ zz ∧ b = .int .i64 k ∧ a = .string ⟨(List.replicate k 48).toArray⟩) (fun _ b => zz - (intOf b).toNat)
    case atStart => exact ⟨0, Nat.zero_le _, rfl, rfl⟩
    case round =>
      obtain ⟨k, hk, rfl, rfl⟩ := hrel
      by_cases hlt : k < zz
      · have hps := pad_step k
        have HPS := hid hps
        have hsz : (⟨(List.replicate k (48 : UInt8)).toArray⟩ : ByteArray).size ≤ 64 := by show (List.replicate k (48 : UInt8)).toArray.size ≤ 64; simp; omega
        clear hps
        generalize (⟨(List.replicate k (48 : UInt8)).toArray⟩ : ByteArray) = pd at *
        go_wp2
        go_round
        case rel => exact ⟨k + 1, by omega, by go_num, by rw [← HPS.out]⟩
        case measure => simp [intOf]; omega
      · have hkz : k = zz := by omega
        have hsz : (⟨(List.replicate k (48 : UInt8)).toArray⟩ : ByteArray).size ≤ 64 := by show (List.replicate k (48 : UInt8)).toArray.size ≤ 64; simp; omega
        have HJ2 := hid (fun l => join2 a0 k l)
        clear hkz
        generalize (⟨(List.replicate k (48 : UInt8)).toArray⟩ : ByteArray) = pd at *
        go_wp2_with fail
        refine (hex9 false m HM.out w).mono ?_
        rintro e w1 ⟨rfl, hb1⟩
        have HE1 := hid (HE.out.below (Nat.le_refl _) hb1)
        have HB1 := hid hb1
        have hj1 := join1 a0 (hexs false m)
        have hs1 : (⟨(hexs false m).toArray⟩ : ByteArray).size ≤ 8 := by show (hexs false m).toArray.size ≤ 8; simpa using hexs_length false m
        generalize (⟨(hexs false m).toArray⟩ : ByteArray) = H1 at *
        have HJ1 := hid hj1
        clear hj1 hb1
        go_wp2_with fail
        have hjs : (a0 ++ (⟨#[45, 80]⟩ : ByteArray) ++ H1).size ≤ 4194304 := by
          rw [ByteArray.size_append, ByteArray.size_append]
          show a0.size + 2 + H1.size ≤ _
          omega
        generalize a0 ++ (⟨#[45, 80]⟩ : ByteArray) ++ H1 = J1 at *
        refine (own6 J1 hjs w1 HE1.out).mono ?_
        rintro e w2 ⟨⟨v, b, rfl, hr, hv⟩, hb2⟩
        rw [HJ1.out] at hr
        obtain ⟨hv1, hv2⟩ := hr.uniq (reads_hex a0.data.toList false 0 m HM.out)
        have HV1 := hid hv1
        have HV2 := hid hv2
        have HE2 := hid (HE1.out.below (Nat.le_refl _) hb2)
        have HB2 := hid (HB1.out.trans (hb2.mono HB1.out.size))
        clear hr hv1 hv2 hb2 HB1 HE1 HJ1 hjs hs1
        go_wp2_with fail
        refine (hex9 true m HM.out w2).mono ?_
        rintro e w3 ⟨rfl, hb3⟩
        have HE3 := hid (HE2.out.below (Nat.le_refl _) hb3)
        have HB3 := hid (HB2.out.trans (hb3.mono HB2.out.size))
        have hj2 := HJ2.out (hexs true m)
        have hs2 : (⟨(hexs true m).toArray⟩ : ByteArray).size ≤ 8 := by show (hexs true m).toArray.size ≤ 8; simpa using hexs_length true m
        generalize (⟨(hexs true m).toArray⟩ : ByteArray) = H2 at *
        have HJ := hid hj2
        clear hj2 hb3 HB2 HE2 HJ2
        go_wp2_with fail
        have hjs : (a0 ++ (⟨#[45, 80]⟩ : ByteArray) ++ pd ++ H2).size ≤ 4194304 := by
          rw [ByteArray.size_append, ByteArray.size_append, ByteArray.size_append]
          show a0.size + 2 + pd.size + H2.size ≤ _
          omega
        generalize a0 ++ (⟨#[45, 80]⟩ : ByteArray) ++ pd ++ H2 = J2 at *
        refine (own6 J2 hjs w3 HE3.out).mono ?_
        rintro e w4 ⟨⟨v', b', rfl, hr, hv'⟩, hb4⟩
        rw [HJ.out] at hr
        obtain ⟨hv1, hv2⟩ := hr.uniq (reads_hex a0.data.toList true k m HM.out)
        have HB4 := hid (HB3.out.trans (hb4.mono HB3.out.size))
        rw [hv1, hv2, HV1.out, HV2.out]
        clear hr hv1 hv2 hb4 HB3 HE3 HJ hjs hs2 HV1 HV2 hv hv'
        by_cases hmax : m ≤ 2147483647
        · rw [if_pos hmax, decide_eq_true hmax]
          have tm : (m : Int) ≤ 2147483647 := by omega
          clear hmax
          go_wp2_with fail
          go_ret
          exact ⟨rfl, HB4.out⟩
        · rw [if_neg hmax, decide_eq_false hmax]
          have tm : ¬ (m : Int) ≤ 2147483647 := by omega
          clear hmax
          go_wp2_with fail
          go_ret
          exact ⟨rfl, HB4.out⟩
  · go_enter Tryd.func4, Tryd.ntmps4
    go_wp2_with (go_at_call 8; refine (bytes8_no a0 _ _ _ h).mono ?_; rintro e w' ⟨rfl, hw⟩; obtain rfl := hw.symm; clear hw)
    go_ret
    exact ⟨rfl, Below.refl _ _⟩
end Pd
end Go.Proofs.Qxb6617422aDoor
