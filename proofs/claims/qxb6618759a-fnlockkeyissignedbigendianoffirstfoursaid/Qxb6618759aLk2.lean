import Derived.Test.Qxb6618759aLk1
import Derived.Laws.CopyOwn
import Derived.OwnWalk
import Derived.WalkSpells
namespace Go.Proofs.Qxb6618759a
open Go.RowKit Go.WideShapes
set_option linter.unusedVariables false
namespace Lk
theorem hid {p : Prop} (h : p) : Hid p := h

theorem Try.info5 : ((Try.prog.info? 5).map fun i => (i.zero, i.size, i.bytes)) = some (some (.int .u8 0), 1, 1) := by kernel_rfl

/-- An owned row reads cell by cell. -/
theorem own_cell {w : World} {base g n cap : Nat} {xs : List Value} (h : w.ownsRow base 5 1 (.slice (some ⟨g, 0, none⟩) n cap) n xs) (j : Nat) (hj : j < n) : w.cell? ⟨g, j, none⟩ = xs[j]? :=
  h.cellAt j (by omega)

theorem lk_eq (b0 b1 b2 b3 : Int) (h0 : 0 ≤ b0) (h0' : b0 ≤ 255) (h1 : 0 ≤ b1) (h1' : b1 ≤ 255) (h2 : 0 ≤ b2) (h2' : b2 ≤ 255) (h3 : 0 ≤ b3) (h3' : b3 ≤ 255) :
    wrap32 (head4 b0 b1 b2 b3) = shead b0 b1 b2 b3 := by
  unfold shead head4 wrap32
  split <;> omega

/-- A full row, owned, as the block that it is. -/
theorem own_heap {w : World} {base g n : Nat} {xs : List Value} (h : w.ownsRow base 5 1 (.slice (some ⟨g, 0, none⟩) n n) n xs) : w.heap[g]? = some (.cells xs.toArray 5 (0, 0)) := by
  obtain ⟨h1, h2⟩ := h
  rcases h2 with ⟨h2, _⟩ | ⟨g', cap, cur, hv, hg, hh, _, _, hs, ht⟩
  · cases h2
  · simp only [Value.slice.injEq, Option.some.injEq, Addr.mk.injEq, and_true, true_and] at hv
    obtain ⟨rfl, rfl⟩ := hv
    rw [hh, ← ht, List.take_of_length_le (by simp [hs])]

theorem heap_own {w : World} {base g n : Nat} {xs : List Value} (h : w.heap[g]? = some (.cells xs.toArray 5 (0, 0))) (hb : base ≤ g) (hn : xs.length = n) (hm : n ≤ maxLen) : w.ownsRow base 5 1 (.slice (some ⟨g, 0, none⟩) n n) n xs :=
  ⟨by omega, .inr ⟨g, n, xs.toArray, rfl, hb, h, Nat.le_refl _, hm, by simp [hn], by rw [List.take_of_length_le (by simp [hn])]⟩⟩

theorem add_block (a : Addr) (i : Nat) : (a.add i).block = a.block := by unfold Addr.add; split <;> rfl

def u8s (zs : List Int) : List Value := zs.map (Value.int .u8)
theorem u8s_length (zs : List Int) : (u8s zs).length = zs.length := by simp [u8s]
theorem u8s_one (zs : List Int) : ∀ v ∈ u8s zs, v.oneCell' = true := by
  intro v hv
  simp only [u8s, List.mem_map] at hv
  obtain ⟨a, _, rfl⟩ := hv
  rfl
theorem u8s_at (zs : List Int) (j : Nat) (v : Value) (h : (u8s zs)[j]? = some v) : j < zs.length ∧ v = .int .u8 (zs.getD j 0) := by
  simp only [u8s, List.getElem?_map, Option.map_eq_some_iff] at h
  obtain ⟨a, ha, rfl⟩ := h
  refine ⟨(List.getElem?_eq_some_iff.1 ha).1, ?_⟩
  simp [List.getD, ha]
theorem splice_all (L cs : List Value) (h : L.length = cs.length) : splice L 0 cs = cs := by
  simp [splice, ← h]
theorem u8_size : (Try.prog.info? 5).map (·.size) = some 1 := by kernel_rfl

theorem own_cells4 {w : World} {base g n cap : Nat} {b0 b1 b2 b3 : Int} {zr : List Int} {ys : List Value} (h : w.ownsRow base 5 1 (.slice (some ⟨g, 0, none⟩) n cap) n (u8s (b0 :: b1 :: b2 :: b3 :: zr) ++ ys)) (hn : 4 ≤ n) :
    w.cell? ⟨g, 0, none⟩ = some (.int .u8 b0) ∧ w.cell? ⟨g, 1, none⟩ = some (.int .u8 b1) ∧ w.cell? ⟨g, 2, none⟩ = some (.int .u8 b2) ∧ w.cell? ⟨g, 3, none⟩ = some (.int .u8 b3) := by
  refine ⟨?_, ?_, ?_, ?_⟩
  · rw [h.cellAt 0 (by omega)]; rfl
  · rw [h.cellAt 1 (by omega)]; rfl
  · rw [h.cellAt 2 (by omega)]; rfl
  · rw [h.cellAt 3 (by omega)]; rfl

theorem copy_all (w : World) (ty : TypeId) (g n c : Nat) (a : Addr) (L cs : List Value) (hg : w.heap[g]? = some (.cells L.toArray 5 (0, 0))) (hL : L.length = n) (hn : cs.length = n)
    (hsrc : ∀ j v, cs[j]? = some v → w.cell? (a.add j) = some v) (h1 : ∀ v ∈ cs, v.oneCell' = true) :
    ∃ w2, (Builtin.copy_ #[22, 22] ty #[.slice (some ⟨g, 0, none⟩) n n, .slice (some a) n c]).run Try.prog w = .ok (goInt n) w2 ∧ w2.heap[g]? = some (.cells cs.toArray 5 (0, 0)) ∧ (∀ B w0, Below B w0 w → B ≤ g → Below B w0 w2) := by
  have hr := run_copy_row (P := Try.prog) w 22 22 ty 5 g 0 n n a n c L.toArray 5 cs Try.underlying22 u8_size hg (by simp [hn]) hsrc (by simp; omega) h1
  rw [hn] at hr
  refine ⟨_, hr, ?_, fun B w0 hb hB => below_setRow hb hB _⟩
  have e : L.toArray.toList.take 0 ++ cs ++ L.toArray.toList.drop (0 + n) = cs := by simp [← hL]
  rw [e]
  exact setRow_heap w g _ _ 5 _ hg

set_option maxHeartbeats 2000000 in
theorem main (b off len0 cap0 : Nat) (a1 : Option Addr) (len1 cap1 : Nat) (b0 b1 b2 b3 : Int) (zr z1 : List Int) (w : World) (hb : b < w.heap.size)
    (hl0 : 4 ≤ len0) (hl0' : len0 ≤ 524288) (hl1 : len1 ≤ 524288) (hsum : len0 + len1 ≤ 1048576) (hz0 : (b0 :: b1 :: b2 :: b3 :: zr).length = len0) (hz1 : z1.length = len1)
    (hc0 : ∀ i, i < len0 → w.cell? ⟨b, off + i, none⟩ = some (.int .u8 ((b0 :: b1 :: b2 :: b3 :: zr).getD i 0)))
    (h0 : 0 ≤ b0) (h0' : b0 ≤ 255) (h1 : 0 ≤ b1) (h1' : b1 ≤ 255) (h2 : 0 ≤ b2) (h2' : b2 ≤ 255) (h3 : 0 ≤ b3) (h3' : b3 ≤ 255)
    (hn1 : a1 = none → len1 = 0 ∧ cap1 = 0) (hc1 : ∀ ad, a1 = some ad → ∀ i, i < len1 → ad.block < w.heap.size ∧ w.cell? (ad.add i) = some (.int .u8 (z1.getD i 0))) :
    Calls Try.prog 3 #[.slice (some ⟨b, off, none⟩) len0 cap0, .slice a1 len1 cap1] w fun e w' => e = .returned (.bool true) ∧ Below w.heap.size w w' := by
  obtain ⟨i0, hi, hy0, hy1, hy2⟩ := info_parts Try.info5
  have t0 : ¬ (524288 : Int) < (len0 : Int) := by omega
  have t1 : ¬ (524288 : Int) < (len1 : Int) := by omega
  have t2 : ¬ (len0 : Int) < 4 := by omega
  have hnil : ∀ w : World, (binOp .neq 22 (.slice (some ⟨b, off, none⟩) len0 cap0) (.slice none 0 0)).run Try.prog w = .ok (.bool true) w := fun w => run_neq_slice_nil_any w 22 5 _ _ _ _ _ Try.underlying22
  have Hz0 : Hid ((b0 :: b1 :: b2 :: b3 :: zr).length = len0) := hz0
  have Hc0 : Hid (∀ i, i < len0 → w.cell? ⟨b, off + i, none⟩ = some (.int .u8 ((b0 :: b1 :: b2 :: b3 :: zr).getD i 0))) := hc0
  have Hz1 : Hid (z1.length = len1) := hz1
  have Hc1 : Hid (∀ ad, a1 = some ad → ∀ i, i < len1 → ad.block < w.heap.size ∧ w.cell? (ad.add i) = some (.int .u8 (z1.getD i 0))) := hc1
  have Hn1 : Hid (a1 = none → len1 = 0 ∧ cap1 = 0) := hn1
  clear hz0 hc0 hz1 hc1 hn1
  go_enter Try.func3, Try.ntmps3
  go_wp2_with (first
    | (go_at_call 7; refine (bytes_yes _ _ _ _ _ _ _ hsum).mono ?_; rintro e w' ⟨rfl, hw⟩; obtain rfl := hw.symm; clear hw)
    | (at_make; refine wpList_make_full _ rfl _ _ 22 rfl w.heap.size 5 i0 (.int .u8 0) 1 Try.underlying22 hi hy0 hy1 _ _ _ _ len0 rfl rfl rfl rfl ?b2 ?b3 (Nat.le_refl _) ?_))
  case b2 => rw [hy2]; omega
  case b3 => unfold maxLen; omega
  intro w1 hown1 hgrow1
  have hheap := own_heap hown1
  have hbel1 : Below w.heap.size w w1 := (Below.refl _ _).grown hgrow1 (Nat.le_refl _) (fun k h => by cases h)
  have Hh : Hid (w1.heap[w.heap.size]? = some (.cells (madeCells #[Value.int .u8 0] len0).toList.toArray 5 (0, 0))) := hheap
  have Hlen : (madeCells #[Value.int IntKind.u8 0] len0).toList.length = len0 := by simp [size_madeCells]
  generalize (madeCells #[Value.int IntKind.u8 0] len0).toList = L0 at Hh Hlen
  clear hown1 hgrow1 hheap
  have HL : Hid (L0.length = len0) := Hlen
  clear Hlen
  obtain ⟨w2, hcopy, hr, hbf⟩ := copy_all w1 3 w.heap.size len0 cap0 ⟨b, off, none⟩ L0 (u8s (b0 :: b1 :: b2 :: b3 :: zr)) Hh.out HL.out (by rw [u8s_length, Hz0.out]) (by
    intro j v hv
    obtain ⟨hj, rfl⟩ := u8s_at _ _ _ hv
    rw [Hz0.out] at hj
    rw [add_plain, hbel1.cell (by exact hb)]
    exact Hc0.out j hj) (u8s_one _)
  have hbel2 : Below w.heap.size w w2 := hbf _ _ hbel1 (Nat.le_refl _)
  have Hr : Hid (w2.heap[w.heap.size]? = some (.cells (u8s (b0 :: b1 :: b2 :: b3 :: zr)).toArray 5 (0, 0))) := hr
  clear hr hbf
  clear Hh HL hbel1
  have hsz2 : w.heap.size < w2.heap.size := by
    have := Hr.out
    rw [Array.getElem?_eq_some_iff] at this
    exact this.1
  have hown2 := heap_own (base := w.heap.size) Hr.out (Nat.le_refl _) (by rw [u8s_length, Hz0.out]) (n := len0) (by unfold maxLen; omega)
  obtain ⟨c0, c1, c2, c3⟩ := own_cells4 (ys := []) (by simpa using hown2) hl0
  have HO2 : Hid (w2.ownsRow w.heap.size 5 1 (.slice (some ⟨w.heap.size, 0, none⟩) len0 len0) len0 (u8s (b0 :: b1 :: b2 :: b3 :: zr))) := hown2
  clear hown2 Hr
  have j0 : 0 < len0 := by omega
  have j1 : (1 : Int) < (len0 : Int) := by omega
  have j2 : (2 : Int) < (len0 : Int) := by omega
  have j3 : (3 : Int) < (len0 : Int) := by omega
  go_wp2_with fail
  go_quiet ((go_at_call 8; exact Calls.quiet_of_same (signed b0 b1 b2 b3 _ h0 h0' h1 h1' h2 h2' h3 h3')))
  have hown2' : (w2.drewN nq).ownsRow w.heap.size 5 1 (.slice (some ⟨w.heap.size, 0, none⟩) len0 len0) len0 (u8s (b0 :: b1 :: b2 :: b3 :: zr)) := HO2.out
  have HO2' := hid <| hown2'
  have hbel2' : Below w.heap.size w (w2.drewN nq) := below_drewN hbel2 nq
  have hsz2' : w.heap.size < (w2.drewN nq).heap.size := hsz2
  clear HO2 hown2' hbel2 hsz2 hcopy c0 c1 c2 c3
  generalize w2.drewN nq = w3 at *
  go_wp2_with (at_make; refine wpList_make_own _ rfl _ _ 22 rfl w3.heap.size 5 i0 (.int .u8 0) 1 Try.underlying22 hi hy0 hy1 _ _ _ (len0 + len1) rfl rfl (by omega) ?b2 ?b3 (Nat.le_refl _) ?_)
  case b2 => rw [hy2]; omega
  case b3 => unfold maxLen; omega
  intro w4 hown4 hgrow4
  have hbel4 : Below w3.heap.size w3 w4 := (Below.refl _ _).grown hgrow4 (Nat.le_refl _) (fun k h => by cases h)
  have HO4 := hid <| HO2'.out.kept hgrow4 (.inr (by simp [Value.ownBlock]))
  have hlt4 : w3.heap.size < w4.heap.size := (hown4.lt _ rfl).2
  have HW4 := hid <| hown4
  clear hown4 hgrow4 HO2'
  go_wp2_with (at_builtin; refine wpList_append_fits _ rfl _ _ 22 rfl w3.heap.size 5 i0 1 Try.underlying22 hi hy1 w3.heap.size 0 (len0 + len1) [] rfl HW4.out ⟨w.heap.size, 0, none⟩ len0 _ (u8s (b0 :: b1 :: b2 :: b3 :: zr)) rfl ?n ?c (u8s_one _) (by omega) ?_)
  case n => rw [u8s_length, Hz0.out]; simp
  case c => exact fun j u hj => HO4.out.cells rfl j u hj
  intro w5 hown5 hgrow5
  have hb5 : Below w.heap.size w w5 := (hbel2'.trans (hbel4.mono (by omega))).grown hgrow5 (by omega) (fun k h => by cases h; omega)
  have hb35 : Below w3.heap.size w3 w5 := hbel4.grown hgrow5 (by omega) (fun k h => by cases h; omega)
  have HO5 := hid <| HO4.out.kept hgrow5 (.inr (by simp [Value.ownBlock]; omega))
  have HW5 := hid hown5
  have hsz5 : w3.heap.size < w5.heap.size := by have := hgrow5.size; omega
  clear hown5 hgrow5 HO4 HW4 hbel4
  go_wp2_with (at_builtin; refine wpList_append_fits_any _ rfl _ _ 22 rfl w3.heap.size 5 i0 1 Try.underlying22 hi hy1 w3.heap.size len0 (len0 + len1) _ rfl HW5.out a1 len1 cap1 (u8s z1) rfl ?n (fun h => Hn1.out h) ?c (u8s_one _) (Nat.le_refl _) ?_)
  case n => rw [u8s_length, Hz1.out]; simp
  case c =>
    intro ad had j u hj
    obtain ⟨hk, rfl⟩ := u8s_at _ _ _ hj
    rw [Hz1.out] at hk
    have hh := Hc1.out ad had j hk
    rw [hb5.cell (by rw [add_block]; exact hh.1)]
    exact hh.2
  intro w6 hown6 hgrow6
  have hb6 : Below w.heap.size w w6 := hb5.grown hgrow6 (by omega) (fun k h => by cases h; omega)
  have hown2 := HO5.out.kept hgrow6 (.inr (by simp [Value.ownBlock]; omega))
  obtain ⟨c0, c1, c2, c3⟩ := own_cells4 (ys := []) (by simpa using hown2) hl0
  obtain ⟨d0, d1, d2, d3⟩ := own_cells4 hown6 (by omega)
  have hsz6 : w3.heap.size < w6.heap.size := by have := hgrow6.size; omega
  clear hown6 hgrow6 hown2 HO5 HW5 hb35 hb5
  go_wp2_with (fail)
  refine (lock9 w.heap.size 0 len0 len0 b0 b1 b2 b3 w6 hl0 h0 h0' h1 h1' h2 h2' h3 h3' c0 c1 c2 c3).mono ?_
  rintro e w7 ⟨rfl, hb7⟩
  have e0 := (hb7.cell (p := ⟨w3.heap.size, 0, none⟩) (by exact hsz6)).trans d0
  have e1 := (hb7.cell (p := ⟨w3.heap.size, 1, none⟩) (by exact hsz6)).trans d1
  have e2 := (hb7.cell (p := ⟨w3.heap.size, 2, none⟩) (by exact hsz6)).trans d2
  have e3 := (hb7.cell (p := ⟨w3.heap.size, 3, none⟩) (by exact hsz6)).trans d3
  have hb7' : Below w.heap.size w w7 := hb6.trans (hb7.mono hb6.size)
  clear c0 c1 c2 c3 d0 d1 d2 d3 hb6 hb7
  rw [lk_eq b0 b1 b2 b3 h0 h0' h1 h1' h2 h2' h3 h3']
  go_wp2_with (fail)
  refine (lock9 w3.heap.size 0 (len0 + len1) (len0 + len1) b0 b1 b2 b3 w7 (by omega) h0 h0' h1 h1' h2 h2' h3 h3' e0 e1 e2 e3).mono ?_
  rintro e w8 ⟨rfl, hb8⟩
  have hb8' : Below w.heap.size w w8 := hb7'.trans (hb8.mono hb7'.size)
  clear e0 e1 e2 e3 hb8 hb7'
  rw [lk_eq b0 b1 b2 b3 h0 h0' h1 h1' h2 h2' h3 h3']
  have hs1 : -2147483648 ≤ shead b0 b1 b2 b3 := by unfold shead head4; split <;> omega
  have hs2 : shead b0 b1 b2 b3 ≤ 2147483647 := by unfold shead head4; split <;> omega
  generalize shead b0 b1 b2 b3 = k at *
  go_wp2_with fail
  go_ret
  exact ⟨rfl, hb8'⟩
theorem early (a0 : Option Addr) (len0 cap0 : Nat) (a1 : Option Addr) (len1 cap1 : Nat) (w : World) (hsum : len0 + len1 ≤ 1048576) (h : ¬ (len0 ≤ 524288 ∧ len1 ≤ 524288 ∧ 4 ≤ len0)) :
    Calls Try.prog 3 #[.slice a0 len0 cap0, .slice a1 len1 cap1] w fun e w' => e = .returned (.bool true) ∧ Below w.heap.size w w' := by
  by_cases h1 : (524288 : Int) < (len0 : Int)
  · go_enter Try.func3, Try.ntmps3
    go_wp2_with (go_at_call 7; refine (bytes_yes _ _ _ _ _ _ _ hsum).mono ?_; rintro e w' ⟨rfl, hw⟩; obtain rfl := hw.symm; clear hw)
    go_ret
    exact ⟨rfl, Below.refl _ _⟩
  · by_cases h2 : (524288 : Int) < (len1 : Int)
    · go_enter Try.func3, Try.ntmps3
      go_wp2_with (go_at_call 7; refine (bytes_yes _ _ _ _ _ _ _ hsum).mono ?_; rintro e w' ⟨rfl, hw⟩; obtain rfl := hw.symm; clear hw)
      go_ret
      exact ⟨rfl, Below.refl _ _⟩
    · have h3 : (len0 : Int) < 4 := by omega
      clear h
      go_enter Try.func3, Try.ntmps3
      go_wp2_with (go_at_call 7; refine (bytes_yes _ _ _ _ _ _ _ hsum).mono ?_; rintro e w' ⟨rfl, hw⟩; obtain rfl := hw.symm; clear hw)
      go_ret
      exact ⟨rfl, Below.refl _ _⟩

theorem over (a0 : Option Addr) (len0 cap0 : Nat) (a1 : Option Addr) (len1 cap1 : Nat) (w : World) (h0 : len0 ≤ 9223372036854775807) (h1 : len1 ≤ 9223372036854775807) (hsum : ¬ len0 + len1 ≤ 1048576) :
    Calls Try.prog 3 #[.slice a0 len0 cap0, .slice a1 len1 cap1] w fun e w' => e = .returned (.bool true) ∧ Below w.heap.size w w' := by
  go_enter Try.func3, Try.ntmps3
  go_wp2_with (go_at_call 7; refine (bytes_no _ _ _ _ _ _ _ h0 h1 hsum).mono ?_; rintro e w' ⟨rfl, hw⟩; obtain rfl := hw.symm; clear hw)
  go_ret
  exact ⟨rfl, Below.refl _ _⟩
end Lk
end Go.Proofs.Qxb6618759a
