import Derived.Test.Qxb6617422aDoorPu
import Derived.Test.Qxb6617422aDoorSpec
import Derived.Test.Qxb6617422aDoorShelf
import Derived.Deep.QuietTactic
import Derived.BigQuiet
import Derived.WalkSmall
import Derived.Lib.AtoiErrMem
import Derived.Lib.IfaceEq
namespace Go.Proofs.Qxb6617422aDoor
open Go.RowKit
set_option linter.unusedVariables false
namespace Pd

/-- strconv's two sentinels, as far as they matter here: each variable's cell holds an interface value. -/
structure Errs (w : World) : Prop where
  syn : ∃ ev, w.cell? ⟨1, 0, none⟩ = some ev ∧ (ev = .nilIface ∨ ∃ te pe, ev = .iface te pe)
  rng : ∃ ev, w.cell? ⟨2, 0, none⟩ = some ev ∧ (ev = .nilIface ∨ ∃ te pe, ev = .iface te pe)

theorem Errs.below {w w' : World} (h : Errs w) {B : Nat} (hB : w.heap.size ≤ B) (hb : Below B w w') : Errs w' := by
  obtain ⟨⟨e1, h1, k1⟩, ⟨e2, h2, k2⟩⟩ := h
  exact ⟨⟨e1, (hb.cell (Nat.lt_of_lt_of_le (World.block_lt_of_cell? w _ h1) hB)).trans h1, k1⟩, ⟨e2, (hb.cell (Nat.lt_of_lt_of_le (World.block_lt_of_cell? w _ h2) hB)).trans h2, k2⟩⟩

theorem below_bytes (w : World) (t : ByteArray) : Below w.heap.size w (Lib.bytesWorld w 5 t) := Lib.bytesWorld_below w 5 t

/-- strconv.ParseUint(s, 16, 31). -/
def Pub (l : List UInt8) (e : Ending) : Prop := ∃ ev, e = .returned (.tuple #[.int .u64 ((pr l).2 : Int), ev]) ∧ (((pr l).1 = 0 ∧ ev = .nilIface) ∨ (¬ (pr l).1 = 0 ∧ ∃ N, ev = .iface 45 (.pointer (some ⟨N, 0, none⟩))))

set_option maxRecDepth 100000 in
theorem empty17 (w : World) : Calls Tryd.prog 17 #[.string ⟨#[]⟩, .int .i64 16, .int .i64 31] w fun e w' => e = .returned (puTuple (1, 0)) ∧ w' = w := by
  go_enter Tryd.func17, Tryd.ntmps17
  go_wp2
  go_ret2
  exact ⟨rfl, rfl⟩

theorem any17 (t : ByteArray) (hmax : t.size ≤ 281474976710656) (w : World) : Calls Tryd.prog 17 #[.string t, .int .i64 16, .int .i64 31] w fun e w' => e = .returned (puTuple (pr t.data.toList)) ∧ Below w.heap.size w w' := by
  by_cases h : t.size = 0
  · have e : t = ⟨#[]⟩ := by
      cases t with
      | mk d =>
        have : d.size = 0 := h
        rw [Array.size_eq_zero_iff] at this
        rw [this]
    subst e
    refine (empty17 w).mono ?_
    rintro e w' ⟨rfl, rfl⟩
    exact ⟨rfl, Below.refl _ _⟩
  · refine (pu17 t h (by omega) w).mono ?_
    rintro e w' ⟨rfl, rfl⟩
    refine ⟨?_, below_bytes w t⟩
    have : ¬ t.data.toList = [] := fun e => h (by have : t.data.toList.length = 0 := by rw [e]; rfl
                                                  simpa using this)
    rw [pr, if_neg this]

theorem cmp41 : (Tryd.prog.info? 41).map (·.comparable) = some true := by kernel_rfl
set_option maxHeartbeats 1000000 in
set_option maxRecDepth 100000 in
/-- strconv.toError at the inner package's second error. -/
theorem syn18 (fn s : ByteArray) (base bits : Int) (ev : Value) (w : World) (hlim : s.size ≤ 281474976710656) (hv : w.cell? ⟨1, 0, none⟩ = some ev) (hev : ev = .nilIface ∨ ∃ te pe, ev = .iface te pe) :
    Calls Tryd.prog 18 #[.string fn, .string s, .int .i64 base, .int .i64 bits, .iface 41 (.int .i64 2)] w fun e w' => ∃ N, e = .returned (.iface 45 (.pointer (some ⟨N, 0, none⟩))) ∧ Below w.heap.size w w' := by
  have heq : ∀ W : World, (binOp .eql 35 (.iface 41 (.int .i64 2)) (.iface 41 (.int .i64 2))).run Tryd.prog W = .ok (.bool true) W := fun W => Lib.run_eql_iface_int W 2 2 Tryd.underlying35 cmp41 Tryd.underlying41
  have HV := hid hv
  have HEV := hid hev
  clear hv hev
  go_enter Tryd.func18, Tryd.ntmps18
  go_wp2_with fail
  refine (Go.Proofs.Tryd.strconv_syntaxError fn s ev w hlim HV.out HEV.out).mono ?_
  rintro e w2 ⟨N, rfl, -, -, h3⟩
  go_wp2_with fail
  go_ret
  exact ⟨N, rfl, h3⟩

set_option maxHeartbeats 1000000 in
theorem pub14 (t : ByteArray) (hmax : t.size ≤ 281474976710656) (w : World) (he : Errs w) :
    Calls Tryd.prog 14 #[.string t, .int .i64 16, .int .i64 31] w fun e w' => Pub t.data.toList e ∧ Below w.heap.size w w' := by
  have HE := hid he
  clear he
  go_enter Tryd.func14, Tryd.ntmps14
  go_wp2_with fail
  refine (any17 t hmax w).mono ?_
  rintro e w1 ⟨rfl, hb1⟩
  have HE1 := hid (HE.out.below (Nat.le_refl _) hb1)
  rcases pr_code t.data.toList with hc | hc | hc
  · have e : puTuple (pr t.data.toList) = .tuple #[.int .u64 ((pr t.data.toList).2 : Int), .nilIface] := by unfold puTuple errV; rw [hc]; rfl
    rw [e]
    have HC := hid hc
    clear e hc
    generalize hg : (((pr t.data.toList).2 : Nat) : Int) = g
    have HG := hid hg
    clear hg
    go_wp2_with fail
    go_ret2
    exact ⟨⟨_, by rw [HG.out]; rfl, .inl ⟨HC.out, rfl⟩⟩, hb1⟩
  · have e : puTuple (pr t.data.toList) = .tuple #[.int .u64 ((pr t.data.toList).2 : Int), .iface 41 (.int .i64 2)] := by unfold puTuple errV; rw [hc]; rfl
    rw [e]
    have HC := hid hc
    clear e hc
    generalize hg : (((pr t.data.toList).2 : Nat) : Int) = g
    have HG := hid hg
    clear hg
    obtain ⟨ev, hv, hev⟩ := HE1.out.syn
    have HV := hid hv
    have HEV := hid hev
    clear hv hev
    go_wp2_with fail
    refine (syn18 _ t 16 31 ev w1 hmax HV.out HEV.out).mono ?_
    rintro e w2 ⟨N, rfl, hb2⟩
    go_wp2_with fail
    go_ret2
    exact ⟨⟨_, by rw [HG.out]; rfl, .inr ⟨by rw [HC.out]; omega, N, rfl⟩⟩, hb1.trans (hb2.mono hb1.size)⟩
  · have e : puTuple (pr t.data.toList) = .tuple #[.int .u64 ((pr t.data.toList).2 : Int), .iface 41 (.int .i64 1)] := by unfold puTuple errV; rw [hc]; rfl
    rw [e]
    have HC := hid hc
    clear e hc
    generalize hg : (((pr t.data.toList).2 : Nat) : Int) = g
    have HG := hid hg
    clear hg
    obtain ⟨ev, hv, hev⟩ := HE1.out.rng
    have HV := hid hv
    have HEV := hid hev
    clear hv hev
    go_wp2_with fail
    refine (Go.Proofs.Tryd.strconv_toError_range _ t 16 31 ev w1 hmax HV.out HEV.out).mono ?_
    rintro e w2 ⟨N, rfl, -, -, hb2⟩
    go_wp2_with fail
    go_ret2
    exact ⟨⟨_, by rw [HG.out]; rfl, .inr ⟨by rw [HC.out]; omega, N, rfl⟩⟩, hb1.trans (hb2.mono hb1.size)⟩

theorem toList_at (s : ByteArray) (j : Nat) (h : j < s.size) : s.data.toList[j]? = some (s.data[j]!) := by
  have h' : j < s.data.size := h
  have e : s.data[j]! = s.data[j] := getElem!_pos s.data j h'
  rw [e]
  simp

/-- Behind the last '/'. -/
theorem slash_split (s : ByteArray) : ∃ b : Nat, b ≤ s.size ∧ Lib.lastIndexByte s 47 = (b : Int) - 1 ∧ (∀ j, b ≤ j → s.data.toList[j]? ≠ some 47) ∧ (b = 0 ∨ ∃ b', b = b' + 1 ∧ s.data.toList[b']? = some 47) := by
  have key : ∀ j, j < s.size → ((s.data[j]!).toNat : Int) ≠ 47 → s.data.toList[j]? ≠ some 47 := by
    intro j hj hne he
    rw [toList_at s j hj] at he
    have : s.data[j]! = 47 := Option.some.inj he
    exact hne (by rw [this]; rfl)
  have big : ∀ j, s.size ≤ j → s.data.toList[j]? ≠ some 47 := by
    intro j hj he
    have := (List.getElem?_eq_some_iff.1 he).1
    simp at this
    omega
  rcases Lib.lastIndexByte_spec s 47 with ⟨h1, h2⟩ | ⟨i, hi, h1, h2, h3⟩
  · refine ⟨0, Nat.zero_le _, by rw [h1]; rfl, fun j _ => ?_, .inl rfl⟩
    by_cases hj : j < s.size
    · exact key j hj (h2 j hj)
    · exact big j (by omega)
  · refine ⟨i + 1, hi, by rw [h1]; omega, fun j hj => ?_, .inr ⟨i, rfl, ?_⟩⟩
    · by_cases hj' : j < s.size
      · exact key j hj' (h3 j (by omega) hj')
      · exact big j (by omega)
    · rw [toList_at s i hi]
      congr 1
      apply UInt8.toNat_inj.1
      have : (47 : UInt8).toNat = 47 := rfl
      omega

theorem occ_PAt (m : List UInt8) (i : Nat) : Lib.occAt m [45, 80] i = true ↔ PAt m i := by
  unfold Lib.occAt PAt
  rw [show m[i]? = (m.drop i)[0]? by simp, show m[i + 1]? = (m.drop i)[1]? by simp]
  generalize m.drop i = r
  match r with
  | [] => simp
  | [a] => simp [List.isPrefixOf]
  | a :: b :: r =>
    simp only [List.isPrefixOf_cons_cons, List.isPrefixOf_nil_left, Bool.and_true, Bool.and_eq_true, beq_iff_eq, List.getElem?_cons_zero, List.getElem?_cons_succ, Option.some.injEq]
    exact ⟨fun h => ⟨h.1.symm, h.2.symm⟩, fun h => ⟨h.1.symm, h.2.symm⟩⟩

theorem PAt.lt {m : List UInt8} {i : Nat} (h : PAt m i) : i + 2 ≤ m.length := by
  have := (List.getElem?_eq_some_iff.1 h.2).1
  omega

theorem dash_split (m : List UInt8) : (Lib.lastIndex m [45, 80] = -1 ∧ ∀ j, ¬ PAt m j) ∨ ∃ i : Nat, i + 2 ≤ m.length ∧ Lib.lastIndex m [45, 80] = i ∧ PAt m i ∧ ∀ j, i < j → ¬ PAt m j := by
  unfold Lib.lastIndex
  by_cases hl : 2 ≤ m.length
  · rw [if_pos (by simpa using hl)]
    have e : m.length - [(45 : UInt8), 80].length + 1 = m.length - 1 := by simp; omega
    rw [e]
    rcases Lib.lastOcc_spec m [45, 80] (m.length - 1) with ⟨h1, h2⟩ | ⟨i, hi, h1, h2, h3⟩
    · refine .inl ⟨h1, fun j hj => ?_⟩
      have := hj.lt
      have h := h2 j (by omega)
      rw [(occ_PAt m j).2 hj] at h
      cases h
    · refine .inr ⟨i, by omega, h1, (occ_PAt m i).1 h2, fun j hj hp => ?_⟩
      have := hp.lt
      have h := h3 j hj (by omega)
      rw [(occ_PAt m j).2 hp] at h
      cases h
  · rw [if_neg (by simpa using hl)]
    exact .inl ⟨rfl, fun j hj => by have := hj.lt; omega⟩

theorem extract_list (s : ByteArray) (b : Nat) : (s.extract b s.size).data.toList = s.data.toList.drop b := by
  rw [ByteArray.data_extract, Array.toList_extract, List.extract_eq_take_drop, List.take_of_length_le (by simp)]
theorem extract_len (s : ByteArray) (b : Nat) : (s.extract b s.size).size = s.size - b := by
  rw [ByteArray.size_extract]
  omega

/-- What (ownPID, ZZownPID, the law's own reading) hands back. -/
def OwnR (l : List UInt8) (e : Ending) : Prop := ∃ (v : Nat) (b : Bool), e = .returned (.tuple #[.int .i64 (v : Int), .bool b]) ∧ Reads l v b ∧ v ≤ 2147483647

set_option maxHeartbeats 1000000 in
theorem own10 (s : ByteArray) (hs : s.size ≤ 4194304) (w : World) (he : Errs w) : Calls Tryd.prog 10 #[.string s] w fun e w' => OwnR s.data.toList e ∧ Below w.heap.size w w' := by
  obtain ⟨b, hbs, hlb, hns, hb0⟩ := slash_split s
  have HE := hid he
  have HLB := hid hlb
  have HNS := hid hns
  have HB0 := hid hb0
  clear he hlb hns hb0
  go_enter Tryd.func10, Tryd.ntmps10
  go_wp2_with fail
  refine (Go.Proofs.Tryd.strings_LastIndexByte s 47 (by omega) w).mono ?_
  rintro e w' ⟨rfl, hw⟩
  obtain rfl := hw.symm
  clear hw
  rw [HLB.out]
  go_wp2_with fail
  have HL := hid (extract_list s b)
  have hLs : (s.extract b s.size).size ≤ s.size := by rw [extract_len]; omega
  generalize s.extract b s.size = L at *
  refine (Go.Proofs.Tryd.strings_LastIndex L ⟨#[45, 80]⟩ (by omega) w).mono ?_
  rintro e w' ⟨rfl, hw⟩
  obtain rfl := hw.symm
  clear hw
  have hsub : (⟨#[45, 80]⟩ : ByteArray).data.toList = [45, 80] := rfl
  rw [hsub]
  rcases dash_split L.data.toList with ⟨h1, h2⟩ | ⟨i, hi, h1, h2, h3⟩
  · rw [h1]
    have HR : Hid (Reads s.data.toList 0 false) := by
      refine .inr ⟨fun j hj => ?_, rfl, rfl⟩
      by_cases hjb : b ≤ j
      · refine absurd ?_ (h2 (j - b))
        unfold PAt
        rw [HL.out, List.getElem?_drop, List.getElem?_drop, show b + (j - b) = j by omega, show b + (j - b + 1) = j + 1 by omega]
        exact hj
      · rcases HB0.out with h0 | ⟨b', rfl, hb'⟩
        · omega
        · refine ⟨b', ?_, hb'⟩
          rcases Nat.lt_or_ge j b' with h | h
          · exact h
          · obtain rfl : j = b' := by omega
            rw [hj.1] at hb'
            cases hb'
    clear h1 h2 hsub
    go_wp2_with fail
    go_ret2
    exact ⟨⟨0, false, rfl, HR.out, by omega⟩, Below.refl _ _⟩
  · rw [h1]
    have hiL : i + 2 ≤ L.size := by simpa using hi
    have HG : Hid (Good s.data.toList (b + i)) := by
      refine ⟨?_, fun t ht => HNS.out t (by omega), fun t ht hp => ?_⟩
      · unfold PAt at h2 ⊢
        rw [HL.out, List.getElem?_drop, List.getElem?_drop] at h2
        exact h2
      · refine h3 (t - b) (by omega) ?_
        unfold PAt
        rw [HL.out, List.getElem?_drop, List.getElem?_drop, show b + (t - b) = t by omega, show b + (t - b + 1) = t + 1 by omega]
        exact hp
    clear h1 h2 h3 hsub hi
    go_wp2_with fail
    have HM := hid (extract_list L (i + 2))
    have hMs : (L.extract (i + 2) L.size).size ≤ L.size := by rw [extract_len]; omega
    generalize L.extract (i + 2) L.size = M at *
    refine (pub14 M (by omega) w HE.out).mono ?_
    rintro e w1 ⟨⟨ev, rfl, hev⟩, hb1⟩
    have hle := pr_le M.data.toList
    have hml : M.data.toList = s.data.toList.drop (b + i + 2) := by rw [HM.out, HL.out, List.drop_drop, Nat.add_assoc]
    have HR : Hid (Reads s.data.toList (pr M.data.toList).2 ((pr M.data.toList).1 == 0)) := .inl ⟨b + i, HG.out, by rw [hml], by rw [hml]⟩
    have HEV := hid hev
    clear hev hml
    generalize hv : (pr M.data.toList).2 = v at *
    clear hv
    rcases HEV.out with ⟨hc, rfl⟩ | ⟨hc, N, rfl⟩
    · have hb : ((pr M.data.toList).1 == 0) = true := by rw [hc]; rfl
      rw [hb] at HR
      clear hb hc HEV
      go_wp2_with fail
      go_quiet (fail)
      go_wp2_with fail
      go_ret2
      exact ⟨⟨v, true, rfl, HR.out, hle⟩, below_drewN hb1 _⟩
    · have hb : ((pr M.data.toList).1 == 0) = false := beq_eq_false_iff_ne.2 hc
      rw [hb] at HR
      clear hb hc HEV
      go_wp2_with fail
      go_quiet (fail)
      go_wp2_with fail
      go_ret2
      exact ⟨⟨v, false, rfl, HR.out, hle⟩, below_drewN hb1 _⟩

theorem own6 (s : ByteArray) (hs : s.size ≤ 4194304) (w : World) (he : Errs w) : Calls Tryd.prog 6 #[.string s] w fun e w' => OwnR s.data.toList e ∧ Below w.heap.size w w' := by
  go_enter Tryd.func6, Tryd.ntmps6
  go_wp2_with fail
  refine (own10 s hs w he).mono ?_
  rintro e w' ⟨⟨v, b, rfl, hr, hv⟩, hb⟩
  have HR := hid hr
  clear hr
  go_wp2_with fail
  go_ret2
  exact ⟨⟨v, b, rfl, HR.out, hv⟩, hb⟩
end Pd
end Go.Proofs.Qxb6617422aDoor
