import Derived.Test.Qxb6623459aKtG
import Derived.Test.Qxb6623459aShelf
import Derived.Deep.RegionHeld
import Derived.Deep.DeepCutAuto
namespace Go.Proofs.Qxb6623459a
open Go.RowKit
set_option linter.unusedVariables false
namespace Kt

theorem grow14 (b : Nat) (n : Int) (w : World) (hbk : w.heap[b]? = some (.cells #[.pointer none, .slice none 0 0] 50 (0, 0))) (h0 : 0 ≤ n) (hn : n ≤ 281474976710656) :
    Calls Try.prog 14 #[.pointer (some ⟨b, 0, none⟩), .int .i64 n] w fun e w' => e = .returned (.tuple #[]) ∧ (Lib.BuilderAt 50 5 b b (.pointer (some ⟨b, 0, none⟩)) (Lib.byteCells []) w' ∧ Below b w w') := by
  obtain ⟨k, rfl⟩ := Int.eq_ofNat_of_zero_le h0
  exact Go.Proofs.Try.Builder_Grow_fresh b b k w (Nat.le_refl _) hbk (by rw [Array.getElem?_eq_some_iff] at hbk; have := hbk.1; omega) (by omega)

theorem write15 (b : Nat) (l : List UInt8) (s : ByteArray) (w : World) (h : Lib.BuilderAt 50 5 b b (.pointer (some ⟨b, 0, none⟩)) (Lib.byteCells l) w) (hlen : l.length + s.size ≤ 140737488355328) :
    Calls Try.prog 15 #[.pointer (some ⟨b, 0, none⟩), .string s] w fun e w' => e = .returned (.tuple #[.int .i64 s.size, .nilIface]) ∧ (Lib.BuilderAt 50 5 b b (.pointer (some ⟨b, 0, none⟩)) (Lib.byteCells (l ++ s.data.toList)) w' ∧ Below b w w') := by
  have hlt := h.lt
  refine (Go.Proofs.Try.Builder_WriteString b b (Lib.byteCells l) s w (.inr h) (by rw [Lib.byteCells_length]; exact hlen) (by omega)).mono ?_
  rintro e w' ⟨rfl, h1, h2⟩
  refine ⟨rfl, ?_, h2⟩
  have e : Lib.byteCells (l ++ s.data.toList) = Lib.byteCells l ++ Lib.strCells s := by simp [Lib.byteCells, Lib.strCells]
  rw [e]
  exact h1

theorem string16 (b : Nat) (l : List UInt8) (w : World) (h : Lib.BuilderAt 50 5 b b (.pointer (some ⟨b, 0, none⟩)) (Lib.byteCells l) w) :
    Calls Try.prog 16 #[.pointer (some ⟨b, 0, none⟩)] w fun e w' => e = .returned (.string ⟨l.toArray⟩) ∧ Below b w w' :=
  Go.Proofs.Try.Builder_String_any b b l w (.inr h) (by have := h.lt; omega)

theorem text_root (tp : Value) (la : ByteArray) (w : World) :
    Calls Try.prog 12 #[tp, .agg #[.int .i64 0, .string la]] w fun e w' => e = .returned (.string la) ∧ Below w.heap.size w w' := by
  go_enter Try.func12, Try.ntmps12
  go_wp2
  go_ret
  exact ⟨rfl, (Below.refl _ _).alloc (Nat.le_refl _) _⟩

/-- A run of the builtin append that is known, for the walk. -/
theorem wpList_append_run {P : Program} {w : World} {ops : Array Oper} {rest : List Oper} {o : Oper} {a : Act} {Q : Exit → Act → World → Prop} (hgd : o.guard = none) (s x : Operand) (t : TypeId)
    (ho : o.op = .call { callee := .builtin .append, args := #[s, x], argTypes := #[t, t] }) (v u r : Value) (w' : World) (hs : a.eval s = v) (hx : a.eval x = u)
    (hrun : Hid ((Builtin.append_ #[t, t] o.type #[v, u]).run P w = .ok r w')) (h : wpList P ops Q rest (a.put o.dst r) w') : wpList P ops Q (o :: rest) a w := by
  refine wpList_plain hgd fun K hK => ?_
  have hrun := hrun.out
  unfold Oper.wp
  simp [execOp, ho, resolve, invoke, builtin, hs, hx, hrun, Result.andThen]
  exact hK _ _ h

set_option maxHeartbeats 2000000 in
theorem text12 (tb pb n : Nat) (pz : Nat → Int) (ss : Nat → ByteArray) (sz : Nat → Int) (w : World) (hT : TreeAt w tb pb n pz ss sz) (hU : TreeUp pz ss sz n) (hn : n ≤ 1048576) (hs : ∀ q, q < n → (ss q).size ≤ 1048576)
    (p : Nat) (la : ByteArray) (h1 : 1 ≤ p) (hp : p < n) (hl : la.size ≤ 4194304) :
    Calls Try.prog 12 #[.pointer (some ⟨tb, 0, none⟩), .agg #[.int .i64 p, .string la]] w fun e w' => e = .returned (.string ⟨(names ss (up pz p) ++ la.data.toList).toArray⟩) ∧ Below w.heap.size w w' := by
  have HT := hid hT
  have HU := hid hU
  have HS := hid hs
  have hpn : ((p : Int) == 0) = false := beq_eq_false_iff_ne.2 (by omega)
  clear hT hU hs
  go_enter Try.func12, Try.ntmps12
  go_wp2
  have hT0 : TreeAt (w.alloc (.cells #[.int .i64 p, .string la] 44)) tb pb n pz ss sz := HT.out.below (Nat.le_refl _) ((Below.refl _ _).alloc (Nat.le_refl _) _)
  have hk0 : (w.alloc (.cells #[.int .i64 p, .string la] 44)).cell? ⟨w.heap.size, 0, none⟩ = some (.int .i64 p) := by simp
  have hk1 : (w.alloc (.cells #[.int .i64 p, .string la] 44)).cell? ⟨w.heap.size, 1, none⟩ = some (.string la) := by simp
  have hW : (w.alloc (.cells #[.int .i64 p, .string la] 44)).heap.size = w.heap.size + 1 := by simp
  have hb0 : Below w.heap.size w (w.alloc (.cells #[.int .i64 p, .string la] 44)) := (Below.refl _ _).alloc (Nat.le_refl _) _
  go_loopw [6, 7] (fun v i wr => ∃ (q g cap : Nat) (xs : List Nat), q < n ∧ v = .slice (some ⟨g, 0, none⟩) xs.length cap ∧ i = .int .i64 q ∧ up pz p = xs ++ up pz q ∧ Al (w.heap.size + 1) wr g cap xs ∧ Below (w.heap.size + 1) (w.alloc (.cells #[.int .i64 p, .string la] 44)) wr) (fun _ i _ => (intOf i).toNat)
  case atStart =>
    refine ⟨p, w.heap.size + 1, 8, [], hp, rfl, rfl, rfl, ⟨Nat.le_refl _, by simp, by simp, fun j u hj => by simp [ints] at hj, fun j _ hj => ?_⟩, (Below.refl _ _).alloc (by omega) _⟩
    have hnew := heap_alloc_new (w.alloc (.cells #[.int .i64 p, .string la] 44)) (.cells #[Value.int .i64 0, .int .i64 0, .int .i64 0, .int .i64 0, .int .i64 0, .int .i64 0, .int .i64 0, .int .i64 0] 46)
    rw [hW] at hnew
    refine ⟨?_, frozen_of_row _ _ _ _ _ hnew⟩
    rw [cell_of_row _ _ _ _ _ _ hnew]
    simp
    omega
  case round =>
    obtain ⟨q, g, cap, xs, hq, rfl, rfl, hx, hal, hbr⟩ := hrel
    have HX := hid hx
    have HAL := hid hal
    have HBR := hid hbr
    have HT0 := hid hT0
    have HW := hid hW
    have hsz : w.heap.size + 1 ≤ wr.heap.size := by have := hbr.size; omega
    clear hx hal hbr hT0 hk0 hk1 hW hb0
    by_cases hq0 : q = 0
    · subst hq0
      have HXX : Hid (up pz p = xs) := by have := HX.out; rw [up_zero, List.append_nil] at this; exact this
      have hB2 : Below (w.heap.size + 1) (w.alloc (.cells #[.int .i64 p, .string la] 44)) (wr.alloc (.cells #[.pointer none, .slice none 0 0] 50)) := HBR.out.alloc hsz _
      have hT2 := HT0.out.below (by rw [HW.out]; exact Nat.le_refl _) hB2
      have hk0 : (wr.alloc (.cells #[.pointer none, .slice none 0 0] 50)).cell? ⟨w.heap.size, 0, none⟩ = some (.int .i64 p) := (hB2.cell (by exact Nat.lt_succ_self _)).trans (by simp)
      have hk1 : (wr.alloc (.cells #[.pointer none, .slice none 0 0] 50)).cell? ⟨w.heap.size, 1, none⟩ = some (.string la) := (hB2.cell (by exact Nat.lt_succ_self _)).trans (by simp)
      have hAL2 := HAL.out.alloc #[.pointer none, .slice none 0 0] 50
      have hbk := heap_alloc_new wr (.cells #[.pointer none, .slice none 0 0] 50)
      have hsz2 : wr.heap.size < (wr.alloc (.cells #[.pointer none, .slice none 0 0] 50)).heap.size := by simp
      have hlt2 : tb < wr.heap.size ∧ pb < wr.heap.size := ⟨by have := HT0.out.tlt; rw [HW.out] at this; omega, by have := HT0.out.plt; rw [HW.out] at this; omega⟩
      go_wp2
      generalize hW2 : wr.alloc (.cells #[.pointer none, .slice none 0 0] 50) = W2 at *
      clear hW2
      have hgb : g < wr.heap.size := HAL.out.lt
      have hwb : Below w.heap.size w W2 := ((Below.refl _ _).alloc (Nat.le_refl _) _).trans (hB2.mono (Nat.le_succ _))
      have hBD := HU.out.bound (fun q hq => HS.out q hq) p (.inl hp)
      have hsp0 : 0 ≤ sz p := hBD.1
      have hsp1 : sz p ≤ 1099511627776 := by have := hBD.2; omega
      generalize wr.heap.size = b at *
      have c1 := hT2.paths
      have c2 := hT2.size p hp
      have HT2 := hid hT2
      have HK0 := hid hk0
      have HK1 := hid hk1
      have HA2 := hid hAL2
      have HBK := hid hbk
      have HWB := hid hwb
      clear hT2 hAL2 hbk hwb HAL HBR HT0 HW HX hB2 hBD HT
      have hkeep : ∀ w', Below b W2.drew w' → (w'.cell? ⟨tb, 0, none⟩ = some (.slice (some ⟨pb, 0, none⟩) n n) ∧ w'.cell? ⟨w.heap.size, 0, none⟩ = some (.int .i64 p) ∧ w'.cell? ⟨w.heap.size, 1, none⟩ = some (.string la) ∧ w'.cell? ⟨pb, p * 4 + 3, none⟩ = some (.int .i64 (sz p))) := fun w' hb' =>
        ⟨(hb'.cell (by exact hlt2.1)).trans c1, (hb'.cell (by exact hsz)).trans HK0.out, (hb'.cell (by exact hsz)).trans HK1.out, (hb'.cell (by exact hlt2.2)).trans c2⟩
      have HKEEP := hid hkeep
      clear hkeep
      have hwr : IntKind.i64.wrap (sz p + (la.size : Int)) = sz p + (la.size : Int) := by rw [IntKind.wrap_i64]; omega
      go_cut [4] (fun s4 wx => s4 = .string ⟨#[]⟩ ∧ Lib.BuilderAt 50 5 b b (.pointer (some ⟨b, 0, none⟩)) (Lib.byteCells []) wx ∧ Below b W2.drew wx)
      case first =>
        go_region_with (go_at_call 14; refine (grow14 b (sz p + la.size) W2.drew HBK.out (by omega) (by omega)).mono ?_; rintro e w3 ⟨rfl, hbd, hb3⟩)
        all_goals (go_wp2_with fail; go_meet; exact ⟨rfl, hbd, hb3⟩)
      case rest =>
      obtain ⟨rfl, hbd, hb3⟩ := hcut
      have HBD := hid hbd
      have HB3 := hid hb3
      clear hbd hb3 hwr hk0 hk1 c1 c2
      have hxl : xs.length ≤ 1048576 := by
        have e1 := up_length HU.out p hp
        rw [HXX.out] at e1
        omega
      go_wp2
      go_loopw [9] (fun i wr2 => ∃ r : Nat, r ≤ xs.length ∧ i = .int .i64 ((r : Int) - 1) ∧ Lib.BuilderAt 50 5 b b (.pointer (some ⟨b, 0, none⟩)) (Lib.byteCells (names ss (xs.drop r))) wr2 ∧ Below b W2.drew wr2) (fun i _ => (intOf i + 1).toNat)
      case atStart => exact ⟨xs.length, Nat.le_refl _, rfl, by rw [List.drop_of_length_le (Nat.le_refl _), names_nil]; exact HBD.out, HB3.out⟩
      case round =>
        obtain ⟨r, hr, hi, hbd, hb3⟩ := hrel
        have HBR := hid hbd
        have HB4 := hid hb3
        clear hbd hb3
        cases r with
        | zero =>
          have hi' : _ = Value.int .i64 (-1) := hi
          subst hi'
          clear hi
          have c1 : wr.cell? ⟨w.heap.size, 1, none⟩ = some (.string la) := (HKEEP.out _ HB4.out).2.2.1
          have hnl : (names ss xs).length ≤ 1099511627776 := by
            have := names_length xs (ss := ss) (fun q hq => HS.out q (up_lt HU.out p hp q (by rw [HXX.out]; exact hq)))
            have h2 : xs.length * 1048576 ≤ 1048576 * 1048576 := Nat.mul_le_mul_right _ hxl
            omega
          have HBR' : Hid (Lib.BuilderAt 50 5 b b (.pointer (some ⟨b, 0, none⟩)) (Lib.byteCells (names ss xs)) wr) := HBR.out
          go_wp2_with (go_at_call 15; refine (write15 b (names ss xs) la _ HBR'.out (by omega)).mono ?_; rintro e w5 ⟨rfl, hbd5, hb5⟩)
          refine (string16 b _ _ hbd5).mono ?_
          rintro e w6 ⟨rfl, hb6⟩
          go_wp2_with fail
          go_ret
          refine ⟨by rw [HXX.out]; rfl, ?_⟩
          exact HWB.out.trans ((below_drewN (Below.refl _ W2) 1).trans (((HB4.out.trans hb5).trans hb6).mono (by omega)))
        | succ r =>
          have hi' : _ = Value.int .i64 (r : Int) := hi.trans (by congr 1; omega)
          subst hi'
          clear hi
          have hrl : r < xs.length := by omega
          have hql : xs[r] < n := up_lt HU.out p hp _ (by rw [HXX.out]; exact List.getElem_mem hrl)
          have hc := HKEEP.out _ HB4.out
          have c1 : wr.cell? ⟨tb, 0, none⟩ = some (.slice (some ⟨pb, 0, none⟩) n n) := hc.1
          have c2 : wr.cell? ⟨g, r, none⟩ = some (.int .i64 (xs[r] : Int)) := (HB4.out.cell (by exact hgb)).trans (HA2.out.cells r _ (ints_at xs r hrl))
          have c3 : wr.cell? ⟨pb, xs[r] * 4 + 2, none⟩ = some (.string (ss xs[r])) := (HB4.out.cell (by exact hlt2.2)).trans (HT2.out.name _ hql)
          have hsl : (ss xs[r]).size ≤ 1048576 := HS.out _ hql
          have HND := hid (names_drop (ss := ss) xs r hrl)
          have hnl : (names ss (xs.drop (r + 1))).length ≤ 1099511627776 := by
            have h1 := names_length (xs.drop (r + 1)) (ss := ss) (fun q hq => HS.out q (up_lt HU.out p hp q (by rw [HXX.out]; exact List.mem_of_mem_drop hq)))
            have h2 : (xs.drop (r + 1)).length * 1048576 ≤ 1048576 * 1048576 := Nat.mul_le_mul_right _ (by rw [List.length_drop]; omega)
            omega
          generalize xs[r] = q at *
          clear hc
          go_wp2
          go_region_with (go_at_call 15; refine (write15 b (names ss (xs.drop (r + 1))) (ss q) wr.drew HBR.out (by omega)).mono ?_; rintro e w3 ⟨rfl, hbd, hb3⟩)
          all_goals
            go_wp2_with fail
            go_roundw
            case rel =>
              (repeat apply Exists.intro)
              exact ⟨⟨r, by omega, rfl, by rw [HND.out]; exact hbd, (HB4.out.trans (below_drewN (Below.refl _ wr) 1)).trans hb3⟩, rfl⟩
            case measure => simp [intOf]
    · have hqt : ((q : Int) != 0) = true := by simp; omega
      have hxl : xs.length ≤ 1048576 := by
        have e1 := up_length HU.out p hp
        rw [HX.out] at e1
        simp at e1
        omega
      have hal1 := HAL.out.alloc #[.int .i64 (q : Int)] 3
      obtain ⟨g', cap', w', hrun, hal2, hb2⟩ := al_append hal1 (by simp; omega) 22 q ⟨wr.heap.size, 0, none⟩ 1 (by simp) hxl
      have hb3 : Below (w.heap.size + 1) (w.alloc (.cells #[.int .i64 p, .string la] 44)) w' := (HBR.out.alloc hsz _).trans hb2
      have hT3 := HT0.out.below (by rw [HW.out]; exact Nat.le_refl _) hb3
      have c1 := hT3.paths
      have c2 := hT3.par q hq
      have hd := HU.out.down q (by omega) hq
      obtain ⟨r, hr⟩ := Int.eq_ofNat_of_zero_le hd.1
      have HR := hid hr
      have hru := up_step HU.out q (by omega) hq
      rw [hr] at hru c2
      simp only [Int.toNat_natCast] at hru
      have HRU := hid hru
      have HAL2 := hid hal2
      have HB3 := hid hb3
      have hrq : r < q := by omega
      clear hr hru hd hT3 hal1 hal2 hb2 hb3 hq0
      have HRUN := hid hrun
      clear hrun
      go_wp2_with (at_builtin; refine wpList_append_run rfl _ _ 22 rfl _ _ _ _ rfl rfl HRUN ?_)
      go_roundw
      case rel => exact ⟨r, g', cap', xs ++ [q], by omega, by simp, rfl, by rw [HX.out, HRU.out]; simp, HAL2.out, HB3.out⟩
      case measure => simp [intOf]; omega

theorem text9 (tb pb n : Nat) (pz : Nat → Int) (ss : Nat → ByteArray) (sz : Nat → Int) (w : World) (hT : TreeAt w tb pb n pz ss sz) (hU : TreeUp pz ss sz n) (hn : n ≤ 1048576) (hs : ∀ q, q < n → (ss q).size ≤ 1048576)
    (p : Nat) (la : ByteArray) (hp : p < n) (hl : la.size ≤ 4194304) :
    Calls Try.prog 9 #[.pointer (some ⟨tb, 0, none⟩), .int .i64 p, .string la] w fun e w' => e = .returned (.string ⟨(names ss (up pz p) ++ la.data.toList).toArray⟩) ∧ Below w.heap.size w w' := by
  have HU := hid hU
  have HS := hid hs
  clear hU hs
  by_cases h0 : p = 0
  · subst h0
    go_enter Try.func9, Try.ntmps9
    go_wp2_with (go_at_call 12; refine (text_root _ la _).mono ?_; rintro e w' ⟨rfl, hb⟩)
    go_ret
    refine ⟨?_, hb⟩
    have e : (⟨(names ss (up pz 0) ++ la.data.toList).toArray⟩ : ByteArray) = la := by rw [up_zero, names_nil]; simp
    rw [e]
    rfl
  · go_enter Try.func9, Try.ntmps9
    go_wp2_with (go_at_call 12; refine (text12 tb pb n pz ss sz _ hT HU.out hn HS.out p la (by omega) hp hl).mono ?_; rintro e w' ⟨rfl, hb⟩)
    go_ret
    exact ⟨rfl, hb⟩
end Kt
end Go.Proofs.Qxb6623459a
