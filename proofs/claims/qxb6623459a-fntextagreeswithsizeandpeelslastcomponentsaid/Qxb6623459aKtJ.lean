import Derived.Test.Qxb6623459aKtI
namespace Go.Proofs.Qxb6623459a
open Go.RowKit Go.WideShapes
set_option linter.unusedVariables false
namespace Kt

theorem cellsI_below {w w' : World} {g n : Nat} {z : Nat → Int} (h : ∀ i, i < n → w.cell? ⟨g, i, none⟩ = some (.int .i64 (z i))) (hb : Below w.heap.size w w') : ∀ i, i < n → w'.cell? ⟨g, i, none⟩ = some (.int .i64 (z i)) :=
  fun i hi => (hb.cell (World.block_lt_of_cell? w _ (h i hi))).trans (h i hi)
theorem cellsS_below {w w' : World} {g n : Nat} {z : Nat → ByteArray} (h : ∀ i, i < n → w.cell? ⟨g, i, none⟩ = some (.string (z i))) (hb : Below w.heap.size w w') : ∀ i, i < n → w'.cell? ⟨g, i, none⟩ = some (.string (z i)) :=
  fun i hi => (hb.cell (World.block_lt_of_cell? w _ (h i hi))).trans (h i hi)

theorem suf_of (l : List UInt8) (y : ByteArray) : ∀ j (h : j < y.size) (h' : l.length + j < (⟨(l ++ y.data.toList).toArray⟩ : ByteArray).size), (⟨(l ++ y.data.toList).toArray⟩ : ByteArray)[l.length + j] = y[j] := by
  intro j h h'
  show (l ++ y.data.toList).toArray[l.length + j]'_ = y.data[j]'_
  simp

set_option maxHeartbeats 4000000 in
set_option maxRecDepth 100000 in
theorem law3 (a0 : Option Addr) (l0 c0 : Nat) (z0 : Nat → Int) (a1 : Option Addr) (l1 c1 : Nat) (z1 : Nat → Int) (a2 : Option Addr) (l2 c2 : Nat) (ssl : List ByteArray) (a3 : Option Addr) (l3 c3 : Nat) (z3 : Nat → Int) (a4 : Option Addr) (l4 c4 : Nat) (z4 : Nat → Int)
    (lb : Int) (lh : ByteArray) (lp pa : Int) (la : ByteArray) (w : World)
    (h0 : InI w a0 l0 z0) (h1 : InI w a1 l1 z1) (h2 : InS w a2 l2 fun i => ssl.getD i ByteArray.empty) (hl2 : ssl.length = l2) (h3 : InI w a3 l3 z3)
    (h4 : (a4 = none ∧ l4 = 0) ∨ ∃ x, a4 = some x ∧ ∀ i, i < l4 → w.cell? (x.add i) = some (.int .u64 (z4 i))) :
    Calls Try.prog 3 #[.slice a0 l0 c0, .slice a1 l1 c1, .slice a2 l2 c2, .slice a3 l3 c3, .slice a4 l4 c4, .int .i64 lb, .string lh, .int .i64 lp, .int .i64 pa, .string la] w fun e w' => e = .returned (.bool true) ∧ Below w.heap.size w w' := by
  have HS := hid (strRow_of hl2 h2)
  have H0 := hid h0
  have H1 := hid h1
  have H2 := hid h2
  have H3 := hid h3
  have H4 := hid h4
  clear h0 h1 h2 hl2 h3 h4
  obtain ⟨i3, hi3, hy0, hy1, hy2⟩ := info_parts Try.info3
  obtain ⟨i9, hi9, hx0, hx1, hx2⟩ := info_parts Try.info9
  have hnil : ∀ (w : World) (a : Option Addr) (n c : Nat), (binOp .neq 22 (.slice a n c) (.slice none 0 0)).run Try.prog w = .ok (.bool (!a.isNone)) w := fun w a n c => run_neq_slice_nil_any w 22 3 a n c _ _ Try.underlying22
  have hnil' : ∀ (w : World) (a : Option Addr) (n c : Nat), (binOp .neq 23 (.slice a n c) (.slice none 0 0)).run Try.prog w = .ok (.bool (!a.isNone)) w := fun w a n c => run_neq_slice_nil_any w 23 9 a n c _ _ Try.underlying23
  go_enter Try.func3, Try.ntmps3
  go_wp2_with fail
  refine (bytes4 _ _ _ _ _ _ _ _ _ ssl _ _ _ _ _ _ _ _ _ _ _ _ HS.out).mono ?_
  rintro e w' ⟨⟨r, rfl, -⟩, hw⟩
  obtain rfl := hw.symm
  clear hw
  cases r
  · go_wp2_with fail
    go_ret
    exact ⟨rfl, Below.refl _ _⟩
  go_wp2_with fail
  refine (fit5 _ _ _ _ _ _ _ _ _ ssl _ _ _ _ _ _ _ _ _ HS.out).mono ?_
  rintro e w' ⟨⟨r, rfl, hfit⟩, hw⟩
  obtain rfl := hw.symm
  clear hw
  have HF := hid hfit
  clear hfit
  cases r
  · go_wp2_with fail
    go_ret
    exact ⟨rfl, Below.refl _ _⟩
  have HF' : Hid (FitP l0 l1 l3 l4 l2 lh.size la.size ssl) := HF.out rfl
  clear HF
  have hl0 : l0 ≤ 1048576 := HF'.out.1
  have hl1 : l1 ≤ 1048576 := HF'.out.2.1
  have hl3 : l3 ≤ 1048576 := HF'.out.2.2.1
  have hl2 : l2 ≤ 1048576 := by have := HF'.out.2.2.2.2; omega
  go_upto_if 52 with fail
  go_cut [0] (fun s0 wx => ∃ a c, s0 = .slice a l0 c ∧ OwnI wx a l0 z0 ∧ Below w.heap.size w wx)
  case first =>
    rcases H0.out with ⟨rfl, rfl⟩ | ⟨x, rfl, hc⟩
    · go_wp2_with fail
      go_meet
      exact ⟨_, _, rfl, fun h => by omega, Below.refl _ _⟩
    · have HC := hid hc
      clear hc
      go_wp2_with (at_make; refine wpList_make_full _ rfl _ _ 22 rfl w.heap.size 3 i3 (.int .i64 0) 1 Try.underlying22 hi3 hy0 hy1 _ _ _ _ l0 rfl rfl rfl rfl ?b2 ?b3 (Nat.le_refl _) ?_)
      case b2 => rw [hy2]; omega
      case b3 => unfold maxLen; omega
      intro w1 hown hgrow
      obtain ⟨w2, hrun, hcs, hb2, hz2⟩ := after_copy 22 3 Try.underlying22 Try.size3 w w1 3 l0 c0 x _ (rowI l0 z0) hown hgrow (rowI_length _ _) (rowI_src HC.out) (rowI_one _ _)
      have HO := hid (ownI_of hcs)
      have HB := hid hb2
      clear hcs hb2 hown hgrow
      go_wp2_with fail
      go_meet
      exact ⟨_, _, rfl, HO.out, HB.out⟩
  case rest =>
  obtain ⟨a0', c0', rfl, hO0, hB0⟩ := hcut
  obtain ⟨x0, hx⟩ : ∃ x, x = wc := ⟨_, rfl⟩
  subst hx
  have HIN := hid (H1.out.below (Nat.le_refl _) hB0)
  have hsz : w.heap.size ≤ x0.heap.size := hB0.size
  go_upto_if 61 with fail
  go_cut [1] (fun s0 wx => ∃ a c, s0 = .slice a l1 c ∧ OwnI wx a l1 z1 ∧ Below x0.heap.size x0 wx)
  case first =>
    rcases HIN.out with ⟨rfl, rfl⟩ | ⟨x, rfl, hc⟩
    · go_wp2_with fail
      go_meet
      exact ⟨_, _, rfl, fun h => by omega, Below.refl _ _⟩
    · have HC := hid hc
      clear hc
      go_wp2_with (at_make; refine wpList_make_full _ rfl _ _ 22 rfl x0.heap.size 3 i3 (.int .i64 0) 1 Try.underlying22 hi3 hy0 hy1 _ _ _ _ l1 rfl rfl rfl rfl ?b2 ?b3 (Nat.le_refl _) ?_)
      case b2 => rw [hy2]; omega
      case b3 => unfold maxLen; omega
      intro w1 hown hgrow
      obtain ⟨w2, hrun, hcs, hb2, hz2⟩ := after_copy 22 3 Try.underlying22 Try.size3 x0 w1 3 l1 c1 x _ (rowI l1 z1) hown hgrow (rowI_length _ _) (rowI_src HC.out) (rowI_one _ _)
      have HO := hid (ownI_of hcs)
      have HB := hid hb2
      clear hcs hb2 hown hgrow
      go_wp2_with fail
      go_meet
      exact ⟨_, _, rfl, HO.out, HB.out⟩
  case rest =>
  obtain ⟨a1', c1', rfl, hO1, hB1'⟩ := hcut
  have hB1 := hB0.trans (hB1'.mono hsz)
  replace hO0 := hO0.below hB1'
  clear HIN hsz hB1' hB0
  obtain ⟨x1, hx⟩ : ∃ x, x = wc := ⟨_, rfl⟩
  subst hx
  have HIN := hid (H2.out.below (Nat.le_refl _) hB1)
  have hsz : w.heap.size ≤ x1.heap.size := hB1.size
  go_upto_if 70 with fail
  go_cut [2] (fun s0 wx => ∃ a c, s0 = .slice a l2 c ∧ OwnS wx a l2 (fun i => ssl.getD i ByteArray.empty) ∧ Below x1.heap.size x1 wx)
  case first =>
    rcases HIN.out with ⟨rfl, rfl⟩ | ⟨x, rfl, hc⟩
    · go_wp2_with fail
      go_meet
      exact ⟨_, _, rfl, fun h => by omega, Below.refl _ _⟩
    · have HC := hid hc
      clear hc
      go_wp2_with (at_make; refine wpList_make_full _ rfl _ _ 23 rfl x1.heap.size 9 i9 (.string ⟨#[]⟩) 1 Try.underlying23 hi9 hx0 hx1 _ _ _ _ l2 rfl rfl rfl rfl ?b2 ?b3 (Nat.le_refl _) ?_)
      case b2 => first | omega | (rw [hx2]; omega)
      case b3 => unfold maxLen; omega
      intro w1 hown hgrow
      obtain ⟨w2, hrun, hcs, hb2, hz2⟩ := after_copy 23 9 Try.underlying23 Try.size9 x1 w1 3 l2 c2 x _ (rowS l2 (fun i => ssl.getD i ByteArray.empty)) hown hgrow (rowS_length _ _) (rowS_src HC.out) (rowS_one _ _)
      have HO := hid (ownS_of hcs)
      have HB := hid hb2
      clear hcs hb2 hown hgrow
      go_wp2_with fail
      go_meet
      exact ⟨_, _, rfl, HO.out, HB.out⟩
  case rest =>
  obtain ⟨a2', c2', rfl, hO2, hB2'⟩ := hcut
  have hB2 := hB1.trans (hB2'.mono hsz)
  replace hO0 := hO0.below hB2'
  replace hO1 := hO1.below hB2'
  clear HIN hsz hB2' hB1
  obtain ⟨x2, hx⟩ : ∃ x, x = wc := ⟨_, rfl⟩
  subst hx
  have HIN := hid (H3.out.below (Nat.le_refl _) hB2)
  have hsz : w.heap.size ≤ x2.heap.size := hB2.size
  go_upto_if 79 with fail
  go_cut [3] (fun s0 wx => ∃ a c, s0 = .slice a l3 c ∧ OwnI wx a l3 z3 ∧ Below x2.heap.size x2 wx)
  case first =>
    rcases HIN.out with ⟨rfl, rfl⟩ | ⟨x, rfl, hc⟩
    · go_wp2_with fail
      go_meet
      exact ⟨_, _, rfl, fun h => by omega, Below.refl _ _⟩
    · have HC := hid hc
      clear hc
      go_wp2_with (at_make; refine wpList_make_full _ rfl _ _ 22 rfl x2.heap.size 3 i3 (.int .i64 0) 1 Try.underlying22 hi3 hy0 hy1 _ _ _ _ l3 rfl rfl rfl rfl ?b2 ?b3 (Nat.le_refl _) ?_)
      case b2 => rw [hy2]; omega
      case b3 => unfold maxLen; omega
      intro w1 hown hgrow
      obtain ⟨w2, hrun, hcs, hb2, hz2⟩ := after_copy 22 3 Try.underlying22 Try.size3 x2 w1 3 l3 c3 x _ (rowI l3 z3) hown hgrow (rowI_length _ _) (rowI_src HC.out) (rowI_one _ _)
      have HO := hid (ownI_of hcs)
      have HB := hid hb2
      clear hcs hb2 hown hgrow
      go_wp2_with fail
      go_meet
      exact ⟨_, _, rfl, HO.out, HB.out⟩
  case rest =>
  obtain ⟨a3', c3', rfl, hO3, hB3'⟩ := hcut
  have hB3 := hB2.trans (hB3'.mono hsz)
  replace hO0 := hO0.below hB3'
  replace hO1 := hO1.below hB3'
  replace hO2 := hO2.below hB3'
  clear HIN hsz hB3' hB2
  obtain ⟨x3, hx⟩ : ∃ x, x = wc := ⟨_, rfl⟩
  subst hx
  have HO0 := hid hO0
  have HO1 := hid hO1
  have HO2 := hid hO2
  have HO3 := hid hO3
  have HB3 := hid hB3
  have hnb : ∀ i, (ssl.getD i ByteArray.empty).size ≤ 1048576 := fun i => by have := sumLen_at ssl i; have h2 := HF'.out.2.2.2.2; omega
  have hla : la.size ≤ 1048576 := by have h2 := HF'.out.2.2.2.2; omega
  have HNB := hid hnb
  have hl4 : l4 ≤ 1048576 := HF'.out.2.2.2.1
  clear hO0 hO1 hO2 hO3 hB3 hnb HS H0 H1 H2 H3 hnil hnil' hi3 hy0 hy1 hy2 hi9 hx0 hx1 hx2 HF'
  by_cases e1 : l1 = l0
  case neg =>
    have t1 : ((l1 : Int) != (l0 : Int)) = true := by simp; omega
    go_wp2_with fail
    go_ret
    exact ⟨rfl, HB3.out⟩
  subst e1
  by_cases e2 : l2 = l1
  case neg =>
    have t1 : ((l2 : Int) != (l1 : Int)) = true := by simp; omega
    go_wp2_with fail
    go_ret
    exact ⟨rfl, HB3.out⟩
  subst e2
  by_cases e3 : l3 = l2
  case neg =>
    have t1 : ((l3 : Int) != (l2 : Int)) = true := by simp; omega
    go_wp2_with fail
    go_ret
    exact ⟨rfl, HB3.out⟩
  subst e3
  obtain ⟨n, hn⟩ : ∃ n, n = l3 := ⟨_, rfl⟩
  subst hn
  by_cases hn0 : n = 0
  · subst hn0
    go_wp2_with fail
    refine (tree_zero _ _ _ _ _ _ _ _ _).mono ?_
    rintro e w' ⟨rfl, hw⟩
    obtain rfl := hw.symm
    clear hw
    go_wp2_with fail
    go_ret
    exact ⟨rfl, HB3.out⟩
  obtain ⟨g0, rfl, r0⟩ := HO0.out (by omega)
  obtain ⟨g1, rfl, r1⟩ := HO1.out (by omega)
  obtain ⟨g2, rfl, r2⟩ := HO2.out (by omega)
  obtain ⟨g3, rfl, r3⟩ := HO3.out (by omega)
  have R0 := hid r0
  have R1 := hid r1
  have R2 := hid r2
  have R3 := hid r3
  clear r0 r1 r2 r3 HO0 HO1 HO2 HO3
  generalize hss : (fun i => ssl.getD i ByteArray.empty) = ss at R2
  have HNS : Hid (∀ i, (ss i).size ≤ 1048576) := by rw [← hss]; exact HNB.out
  clear hss HNB
  go_wp2_with fail
  refine (tree6 g0 g2 g3 n _ _ _ z0 ss z3 _ (by omega) hl0 R0.out R2.out R3.out (fun i _ => HNS.out i)).mono ?_
  rintro e w' ⟨⟨r, rfl, htu⟩, m, hw⟩
  have HTU := hid htu
  have hB4 : Below w.heap.size w w' := by rw [hw]; exact below_drewN HB3.out m
  have R0' : Hid (∀ i, i < n → w'.cell? ⟨g0, i, none⟩ = some (.int .i64 (z0 i))) := by rw [hw]; exact R0.out
  have R1' : Hid (∀ i, i < n → w'.cell? ⟨g1, i, none⟩ = some (.int .i64 (z1 i))) := by rw [hw]; exact R1.out
  have R2' : Hid (∀ i, i < n → w'.cell? ⟨g2, i, none⟩ = some (.string (ss i))) := by rw [hw]; exact R2.out
  have R3' : Hid (∀ i, i < n → w'.cell? ⟨g3, i, none⟩ = some (.int .i64 (z3 i))) := by rw [hw]; exact R3.out
  have HB4 := hid hB4
  clear htu hw hB4 HB3 R0 R1 R2 R3
  cases r
  · go_wp2_with fail
    go_ret
    exact ⟨rfl, HB4.out⟩
  have HU : Hid (TreeUp z0 ss z3 n) := HTU.out rfl
  clear HTU
  by_cases hp0 : pa < 0
  · go_wp2_with fail
    go_ret
    exact ⟨rfl, HB4.out⟩
  by_cases hp1 : (n : Int) ≤ pa
  · go_wp2_with fail
    go_ret
    exact ⟨rfl, HB4.out⟩
  obtain ⟨p, rfl⟩ := Int.eq_ofNat_of_zero_le (by omega : 0 ≤ pa)
  have hpn : p < n := by omega
  go_wp2_with fail
  refine (clone7 a4 l4 c4 z4 _ hl4 ?_).mono ?_
  · rcases H4.out with h | ⟨x, ha, hc⟩
    · exact .inl h
    · exact .inr ⟨x, ha, fun i hi => (HB4.out.cell (World.block_lt_of_cell? w _ (hc i hi))).trans (hc i hi)⟩
  rintro e w5 ⟨⟨asl, nsl, csl, rfl⟩, hb5⟩
  have S0 := hid (cellsI_below R0'.out hb5)
  have S1 := hid (cellsI_below R1'.out hb5)
  have S2 := hid (cellsS_below R2'.out hb5)
  have S3 := hid (cellsI_below R3'.out hb5)
  have HB5 := hid (HB4.out.trans (hb5.mono HB4.out.size))
  clear R0' R1' R2' R3' HB4 hb5 H4
  go_wp2_with fail
  refine (new8 g0 g1 g2 g3 n _ _ _ _ z0 z1 ss z3 lb lh lp _ (by omega) hl0 S0.out S1.out S2.out S3.out asl nsl csl).mono ?_
  rintro e w6 ⟨tb, pb, rfl, hT, hb6⟩
  have T0 := hid (cellsI_below S0.out hb6)
  have T2 := hid (cellsS_below S2.out hb6)
  have HB6 := hid (HB5.out.trans (hb6.mono HB5.out.size))
  have HT := hid hT
  clear S0 S1 S2 S3 HB5 hb6 hT
  go_wp2_with fail
  refine (text9 tb pb n z0 ss z3 _ HT.out HU.out hl0 (fun i _ => HNS.out i) p la hpn (by omega)).mono ?_
  rintro e w7 ⟨rfl, hb7⟩
  have U0 := hid (cellsI_below T0.out hb7)
  have U2 := hid (cellsS_below T2.out hb7)
  have HT7 := hid (HT.out.below (Nat.le_refl _) hb7)
  have HB7 := hid (HB6.out.trans (hb7.mono HB6.out.size))
  clear T0 T2 HT HB6 hb7
  have hns := names_size HU.out p hpn
  have hbd := HU.out.bound (fun i _ => HNS.out i) p (.inl hpn)
  have hz0 : 0 ≤ z3 p := hbd.1
  have hz1 : z3 p ≤ 1099511627776 := by have := hbd.2; omega
  have hGs : (⟨(names ss (up z0 p) ++ la.data.toList).toArray⟩ : ByteArray).size = (names ss (up z0 p)).length + la.size := by
    show (names ss (up z0 p) ++ la.data.toList).toArray.size = _
    simp
  have HGS := hid hGs
  have hsl := suf_of (names ss (up z0 p)) la
  have HSL := hid hsl
  obtain ⟨G, hG⟩ : ∃ G : ByteArray, G = ⟨(names ss (up z0 p) ++ la.data.toList).toArray⟩ := ⟨_, rfl⟩
  rw [← hG] at HGS HSL
  rw [← hG]
  have HG := hid hG
  have hGl : ((G.size : Int) == z3 p + (la.size : Int)) = true := by rw [HGS.out]; simp; omega
  clear hG hGs hns hbd hsl
  go_wp2_with fail
  refine (size10 tb pb n z0 ss z3 _ HT7.out p la hpn hz0 hz1 hla).mono ?_
  rintro e w8 ⟨rfl, hb8⟩
  have V0 := hid (cellsI_below U0.out hb8)
  have V2 := hid (cellsS_below U2.out hb8)
  have HT8 := hid (HT7.out.below (Nat.le_refl _) hb8)
  have HB8 := hid (HB7.out.trans (hb8.mono HB7.out.size))
  clear U0 U2 HT7 HB7 hb8
  go_wp2_with fail
  refine (suf11 ⟨(names ss (up z0 p)).toArray⟩ la _ G (by rw [HGS.out]; rfl) (by rw [HGS.out]; have := names_size HU.out p hpn; omega) HSL.out).mono ?_
  rintro e w9 ⟨rfl, m2, hw9⟩
  have hb9 : Below w8.heap.size w8 w9 := by rw [hw9]; exact below_drewN (Below.refl _ _) m2
  have X0 := hid (cellsI_below V0.out hb9)
  have X2 := hid (cellsS_below V2.out hb9)
  have HT9 := hid (HT8.out.below (Nat.le_refl _) hb9)
  have HB9 := hid (HB8.out.trans (hb9.mono HB8.out.size))
  clear V0 V2 HT8 HB8 hb9 hw9
  by_cases hp00 : p = 0
  · subst hp00
    go_wp2_with fail
    go_ret
    exact ⟨rfl, HB9.out⟩
  have tp : ((p : Int) != 0) = true := by simp; omega
  have k2 := X2.out p hpn
  have k0 := X0.out p hpn
  have hd := HU.out.down p (by omega) hpn
  obtain ⟨q, hq⟩ := Int.eq_ofNat_of_zero_le hd.1
  have HQ := hid hq
  rw [hq] at k0 hd
  have hqn : q < n := by omega
  have hps : (ss p).size ≤ 1048576 := HNS.out p
  clear hq hd hp00
  go_wp2_with fail
  refine (text9 tb pb n z0 ss z3 _ HT9.out HU.out hl0 (fun i _ => HNS.out i) q (ss p ++ la) hqn (by rw [ByteArray.size_append]; omega)).mono ?_
  rintro e w10 ⟨rfl, hb10⟩
  have he : (⟨(names ss (up z0 q) ++ (ss p ++ la).data.toList).toArray⟩ : ByteArray) = G := by
    have hu := up_step HU.out p (by simp at tp; omega) hpn
    rw [HQ.out, Int.toNat_natCast] at hu
    rw [HG.out, hu, names_cons]
    simp
  rw [he]
  have HB10 := hid (HB9.out.trans (hb10.mono HB9.out.size))
  clear he HG HGS HSL hGl X0 X2 k0 k2 HT9 hb10 HB9
  go_wp2_with fail
  go_ret
  exact ⟨rfl, HB10.out⟩
end Kt
end Go.Proofs.Qxb6623459a
