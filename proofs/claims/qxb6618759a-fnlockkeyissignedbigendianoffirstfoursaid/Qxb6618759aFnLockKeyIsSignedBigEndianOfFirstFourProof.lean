/-
  THE SHELL OF A PROOF OF 'Rows.FnLockKeyIsSignedBigEndianOfFirstFourSaid' ('example.com/tokenward/tokenward/zzlaws_store_b1.FnLockKeyIsSignedBigEndianOfFirstFour'), WRITTEN BY PROGRAM (proof-skeleton.mjs, third state) off the guide's own print for that function. Not trusted: Lean checks it.
  The walk (step 1) is typed by hand; all else is the shell's.
-/
import Derived.Test.Qxb6618759aRows
import Derived.WalkKit
import Derived.ProofKit
import Derived.OpenShut
import Derived.ShutString
import Derived.ChangeOld
import Derived.Below
import Derived.Test.Qxb6618759aLk2
namespace Go.Proofs.Qxb6618759a.fnLockKeyIsSignedBigEndianOfFirstFour
open Go.ChangeShapes Go.WideShapes Go.ChangeAt Go.RowKit
open Go.ChangeMaps (open_string shut_string)
set_option linter.unusedVariables false

theorem own : ownKnob Try.prog.godebug = none := by kernel_rfl
theorem laidOut : laidOutB Try.prog = true := by kernel_rfl

/-- WHAT THE WALK IS TOLD OF A SLICE OF INTEGERS THAT CAME IN: it is nil; or it leads to a row of 'cap' cells, the numbers 'zs' (the first 'len' are its elements, the rest its spare room), each fitting its kind. -/
def IsRow (k : IntKind) (w : World) (a : Option Addr) (len cap : Nat) (zs : List Int) : Prop :=
  (a = none ∧ len = 0 ∧ cap = 0 ∧ zs = []) ∨
  ∃ x, a = some x ∧ len ≤ cap ∧ cap ≤ maxLen ∧ zs.length = cap ∧ (∀ i, i < zs.length → w.cell? (x.add i) = some (.int k (zs.getD i 0))) ∧ ∀ n ∈ zs, (Lit.int k n).wf = true

/-! ### STEP 1: THE WALK: the Go text returns true, AND WRITES NOTHING THAT WAS THERE: 'Below w.heap.size w w'' (Derived/Below.lean: '.refl', '.alloc', '.drew', '.setCell' at a new block, '.trans'). Open each 'IsRow' by 'rcases' AHEAD of 'go_enter'; part every test ahead of the walk. -/
theorem walk (a0 : Option Addr) (len0 cap0 : Nat) (z0 : List Int) (a1 : Option Addr) (len1 cap1 : Nat) (z1 : List Int) (w : World) (w0 : IsRow .u8 w a0 len0 cap0 z0) (w1 : IsRow .u8 w a1 len1 cap1 z1) :
    Calls Try.prog 3 #[.slice a0 len0 cap0, .slice a1 len1 cap1] w fun e w' => e = .returned (.bool true) ∧ Below w.heap.size w w' := by
  have b0 : len0 ≤ 9223372036854775807 := by
    rcases w0 with ⟨_, h, _⟩ | ⟨_, _, h, h', _⟩
    · omega
    · unfold maxLen at h'; omega
  have b1 : len1 ≤ 9223372036854775807 := by
    rcases w1 with ⟨_, h, _⟩ | ⟨_, _, h, h', _⟩
    · omega
    · unfold maxLen at h'; omega
  by_cases hsum : len0 + len1 ≤ 1048576
  · by_cases hl0 : len0 ≤ 524288 ∧ len1 ≤ 524288 ∧ 4 ≤ len0
    · obtain ⟨hl0, hl1, hl4⟩ := hl0
      rcases w0 with ⟨_, h, _⟩ | ⟨x, rfl, hlc, hcm, hz, hcell, hwf⟩
      · omega
      · obtain ⟨b, off, spot⟩ := x
        have hspot : spot = none := by simpa [Addr.add] using World.cell?_spot (hcell 0 (by omega))
        subst hspot
        have hbd : ∀ n ∈ z0, 0 ≤ n ∧ n ≤ 255 := fun n hn => by
          have := hwf n hn
          simp [Lit.wf, IntKind.min, IntKind.max, IntKind.bits, IntKind.signed] at this
          omega
        have hcell' : ∀ i, i < len0 → w.cell? ⟨b, off + i, none⟩ = some (.int .u8 ((z0.take len0).getD i 0)) := fun i hi => by
          have := hcell i (by omega)
          rw [add_plain] at this
          rw [this]
          simp [List.getD, hi]
        have hlen : (z0.take len0).length = len0 := by simp; omega
        have hbd' : ∀ n ∈ z0.take len0, 0 ≤ n ∧ n ≤ 255 := fun n hn => hbd n (List.mem_of_mem_take hn)
        have hblk : b < w.heap.size := World.block_lt_of_cell? w _ (hcell' 0 (by omega))
        generalize z0.take len0 = y0 at hcell' hlen hbd'
        match y0, hlen, hcell', hbd' with
        | c0 :: c1 :: c2 :: c3 :: zr, hlen, hcell', hbd' =>
          have g0 := hbd' c0 (by simp)
          have g1 := hbd' c1 (by simp)
          have g2 := hbd' c2 (by simp)
          have g3 := hbd' c3 (by simp)
          refine Lk.main b off len0 cap0 a1 len1 cap1 c0 c1 c2 c3 zr (z1.take len1) w hblk hl4 hl0 hl1 hsum hlen ?_ hcell' g0.1 g0.2 g1.1 g1.2 g2.1 g2.2 g3.1 g3.2 ?_ ?_
          · rcases w1 with ⟨_, h, _, rfl⟩ | ⟨x, rfl, hlc1, _, hz1, _⟩
            · simp [h]
            · simp; omega
          · intro hn
            rcases w1 with ⟨_, h, h', _⟩ | ⟨x, rfl, _⟩
            · exact ⟨h, h'⟩
            · cases hn
          · intro ad had i hi
            rcases w1 with ⟨rfl, h, h', _⟩ | ⟨x, hx, hlc1, _, hz1, hcell1, _⟩
            · cases had
            · rw [hx] at had
              cases had
              have hc := hcell1 i (by omega)
              refine ⟨?_, ?_⟩
              · have := World.block_lt_of_cell? w _ hc
                rwa [Lk.add_block] at this
              · rw [hc]
                simp [List.getD, hi]
        | [], hlen, _, _ => simp at hlen; omega
        | [_], hlen, _, _ => simp at hlen; omega
        | [_, _], hlen, _, _ => simp at hlen; omega
        | [_, _, _], hlen, _, _ => simp at hlen; omega
    · exact Lk.early a0 len0 cap0 a1 len1 cap1 w hsum hl0
  · exact Lk.over a0 len0 cap0 a1 len1 cap1 w b0 b1 hsum

/-! ### THE ROW's STEP: WRITTEN OUT: LEAVE IT -/
set_option maxRecDepth 100000 in
theorem lifted (os : Os) (started : os.Started) (H : Type) (enc : TypeId × Value → H) :
    ReturnsInHanded {} Try.checked os 3 .any (Rows.fnLockKeyIsSignedBigEndianOfFirstFourSpec.pre6 enc Try.prog Try.f3 Rows.fnLockKeyIsSignedBigEndianOfFirstFourRow.domain false) (Rows.fnLockKeyIsSignedBigEndianOfFirstFourSpec.post enc Try.prog Try.f3 false true false false) := by
  refine returnsInHanded_of_change (C := Try.checked) own started (by kernel_rfl) Try.func3
    (ChangeSpec.witness6 (enc := enc) (C := Try.checked) false ⟨#[], #[.slice none 0 0, .slice none 0 0], []⟩ 8 (by kernel_rfl) (by kernel_rfl) (by kernel_rfl) (by kernel_rfl)) ?_
  intro W base args ds gs before hval0 hW hcnd _
  have hval : ∀ (j : Nat) t v, Try.f3.params[j]? = some t → args[j]? = some v → Value.okWide Try.prog W .any base t v := hval0
  have hW' := hW
  obtain ⟨p, q, hA0, hV, rfl, hfz, hnd⟩ := hW
  have hA : DataW.TrodAll enc Try.prog W 0 (fun _ => true) true Try.f3.params.toList args.toList ds p := hA0
  rw [Try.params3] at hA hval
  obtain ⟨v0, vs0, d0, ds0, p0, q0, hargs, rfl, rfl, h0, r0⟩ := trodAll_cons hA
  obtain ⟨v1, vs1, d1, ds1, p1, q1, rfl, rfl, rfl, h1, r1⟩ := trodAll_cons r0
  obtain ⟨rfl, rfl, rfl⟩ := trodAll_nil r1
  obtain rfl : args = #[v0, v1] := by cases args; simp_all
  obtain ⟨rfl, rfl⟩ := trodVars_none hV
  obtain ⟨a0, len0, cap0, rfl⟩ := okWide_slice Try.underlying22 (hval 0 22 v0 rfl rfl)
  have k0 := h0
  have lt0 : ∀ x ∈ p0, x.block < W.heap.size := by obtain ⟨m, hm⟩ := k0; exact DataW.trod_lt m _ _ _ hm
  obtain ⟨z0, w0⟩ : ∃ zs, IsRow .u8 W a0 len0 cap0 zs := by
    obtain ⟨fuel, hf⟩ := h0
    rcases open_ints Try.underlying22 Try.underlying5 (by kernel_rfl) hf with ⟨hcs, _⟩ | ⟨x, l, c, zs, hcs, _, hl, hm, hz, _, hcell, hwz⟩
    · simp [Value.cells] at hcs
      obtain ⟨rfl, rfl, rfl⟩ := hcs
      exact ⟨[], .inl ⟨rfl, rfl, rfl, rfl⟩⟩
    · simp [Value.cells] at hcs
      obtain ⟨rfl, rfl, rfl⟩ := hcs
      exact ⟨zs, .inr ⟨_, rfl, hl, hm, by simpa using hz, hcell, hwz⟩⟩
  obtain ⟨a1, len1, cap1, rfl⟩ := okWide_slice Try.underlying22 (hval 1 22 v1 rfl rfl)
  have k1 := h1
  have lt1 : ∀ x ∈ p1, x.block < W.heap.size := by obtain ⟨m, hm⟩ := k1; exact DataW.trod_lt m _ _ _ hm
  obtain ⟨z1, w1⟩ : ∃ zs, IsRow .u8 W a1 len1 cap1 zs := by
    obtain ⟨fuel, hf⟩ := h1
    rcases open_ints Try.underlying22 Try.underlying5 (by kernel_rfl) hf with ⟨hcs, _⟩ | ⟨x, l, c, zs, hcs, _, hl, hm, hz, _, hcell, hwz⟩
    · simp [Value.cells] at hcs
      obtain ⟨rfl, rfl, rfl⟩ := hcs
      exact ⟨[], .inl ⟨rfl, rfl, rfl, rfl⟩⟩
    · simp [Value.cells] at hcs
      obtain ⟨rfl, rfl, rfl⟩ := hcs
      exact ⟨zs, .inr ⟨_, rfl, hl, hm, by simpa using hz, hcell, hwz⟩⟩
  clear hA0 hval0
  refine (walk a0 len0 cap0 z0 a1 len1 cap1 z1 W w0 w1).mono fun e W' ⟨he, bel⟩ => ?_
  subst he
  exact ⟨_, rfl, _, _, _, [], _, [], hW', trodAll_mk1 (shut_bool Try.underlying4 _), (trodAll_cons_mk (Below.trod laidOut (by kernel_rfl) (of_decide_eq_true (by kernel_rfl)) k0 bel lt0) (trodAll_cons_mk (Below.trod laidOut (by kernel_rfl) (of_decide_eq_true (by kernel_rfl)) k1 bel lt1) trodAll_mk0)), rfl, bel.frame _, fun h => by cases h⟩

theorem over : Rows.fnLockKeyIsSignedBigEndianOfFirstFourRow.holds Try.pinned (OpenSpec.ofChange Rows.fnLockKeyIsSignedBigEndianOfFirstFourSpec) :=
  OpenClaim.holds_of_wide 3 Try.f3 rfl rfl rfl rfl rfl rfl rfl ⟨rfl, rfl, rfl, rfl, rfl⟩ rfl rfl rfl rfl rfl (by kernel_rfl) Try.func3 (by kernel_rfl)
    (of_decide_eq_true (by kernel_rfl)) (by unfold Func.isWrapper; first | (rw [if_pos (by decide +kernel)]; kernel_rfl) | (rw [if_neg (by decide +kernel)]; exact ⟨rfl, rfl⟩))
    (fun os started H enc _ => lifted os started H enc)

/-- ████ THE STATEMENT ████ -/
theorem proved : Rows.FnLockKeyIsSignedBigEndianOfFirstFourSaid := over
#print axioms proved
end Go.Proofs.Qxb6618759a.fnLockKeyIsSignedBigEndianOfFirstFour
