/-
  THE STATEMENT 'Rows.FnFinishGivesMadeSpansAndPendingOpenOneTwiceSaid' (seat b6615596a): the given shell, its walk filled from Qxb6615596aPre and Qxb6615596aMain.
-/
import Derived.Test.Qxb6615596aRows
import Derived.Test.Qxb6615596aMain
import Derived.WalkKit
import Derived.ProofKit
import Derived.OpenShut
import Derived.ShutString
import Derived.ChangeOld
import Derived.Below
namespace Go.Proofs.Qxb6615596a.fnFinishGivesMadeSpansAndPendingOpenOneTwice
open Go.ChangeShapes Go.WideShapes Go.ChangeAt Go.RowKit
open Go.ChangeMaps (open_string shut_string)
set_option linter.unusedVariables false

theorem own : ownKnob Try.prog.godebug = none := by kernel_rfl
theorem laidOut : laidOutB Try.prog = true := by kernel_rfl

/-- WHAT THE WALK IS TOLD OF A SLICE OF INTEGERS THAT CAME IN: it is nil; or it leads to a row of 'cap' cells, the numbers 'zs' (the first 'len' are its elements, the rest its spare room), each fitting its kind. -/
def IsRow (k : IntKind) (w : World) (a : Option Addr) (len cap : Nat) (zs : List Int) : Prop :=
  (a = none ∧ len = 0 ∧ cap = 0 ∧ zs = []) ∨
  ∃ x, a = some x ∧ len ≤ cap ∧ cap ≤ maxLen ∧ zs.length = cap ∧ (∀ i, i < zs.length → w.cell? (x.add i) = some (.int k (zs.getD i 0))) ∧ ∀ n ∈ zs, (Lit.int k n).wf = true

theorem row_len {k : IntKind} {w : World} {a : Option Addr} {len cap : Nat} {zs : List Int} (h : IsRow k w a len cap zs) : len ≤ 9223372036854775807 := by
  rcases h with ⟨_, rfl, _⟩ | ⟨x, _, hl, hm, _⟩
  · omega
  · unfold maxLen at hm; omega

/-- The spans of three lists. -/
def spansOf (z0 z1 z2 : List Int) (n : Nat) : List Sp := (List.range n).map fun i => ⟨z0.getD i 0, z1.getD i 0, z2.getD i 0⟩

theorem law_all (z0 z1 z2 : List Int) (n : Nat) (hn : n ≤ 4096) (l0 : n ≤ z0.length) (l1 : n ≤ z1.length) (l2 : n ≤ z2.length) (x0 : Addr) (cap0 : Nat) (x1 : Addr) (cap1 : Nat) (x2 : Addr) (cap2 : Nat) (f : Bool) (s : Sp) (w : World)
    (hc0 : ∀ i, i < z0.length → w.cell? (x0.add i) = some (.int .i64 (z0.getD i 0))) (hc1 : ∀ i, i < z1.length → w.cell? (x1.add i) = some (.int .i64 (z1.getD i 0))) (hc2 : ∀ i, i < z2.length → w.cell? (x2.add i) = some (.int .i64 (z2.getD i 0))) :
    Calls Try.prog 3 #[.slice (some x0) n cap0, .slice (some x1) n cap1, .slice (some x2) n cap2, .bool f, .int .i64 s.lo, .int .i64 s.hi, .int .i64 s.p] w fun e w' => e = .returned (.bool true) ∧ Below w.heap.size w w' := by
  have hl : (spansOf z0 z1 z2 n).length = n := by simp [spansOf]
  refine law_SSS x0 cap0 x1 cap1 x2 cap2 n (spansOf z0 z1 z2 n) hn hl f s w ?_ ?_ ?_
  · intro j h
    have hj : j < n := by simpa [los, hl] using h
    rw [hc0 j (by omega)]
    simp [los, spansOf]
  · intro j h
    have hj : j < n := by simpa [his, hl] using h
    rw [hc1 j (by omega)]
    simp [his, spansOf]
  · intro j h
    have hj : j < n := by simpa [pends, hl] using h
    rw [hc2 j (by omega)]
    simp [pends, spansOf]


theorem walk (a0 : Option Addr) (len0 cap0 : Nat) (z0 : List Int) (a1 : Option Addr) (len1 cap1 : Nat) (z1 : List Int) (a2 : Option Addr) (len2 cap2 : Nat) (z2 : List Int) (a3 : Bool) (a4 : Int) (a5 : Int) (a6 : Int) (w : World) (w0 : IsRow .i64 w a0 len0 cap0 z0) (w1 : IsRow .i64 w a1 len1 cap1 z1) (w2 : IsRow .i64 w a2 len2 cap2 z2) (w4 : (Lit.int .i64 a4).wf = true) (w5 : (Lit.int .i64 a5).wf = true) (w6 : (Lit.int .i64 a6).wf = true) :
    Calls Try.prog 3 #[.slice a0 len0 cap0, .slice a1 len1 cap1, .slice a2 len2 cap2, .bool a3, .int .i64 a4, .int .i64 a5, .int .i64 a6] w fun e w' => e = .returned (.bool true) ∧ Below w.heap.size w w' := by
  have m0 : len0 ≤ 9223372036854775807 := row_len w0
  have m1 : len1 ≤ 9223372036854775807 := row_len w1
  have m2 : len2 ≤ 9223372036854775807 := row_len w2
  by_cases hall : len0 ≤ 4096 ∧ len1 = len0 ∧ len2 = len0
  case neg =>
    refine (law_early a0 a1 a2 len0 cap0 len1 cap1 len2 cap2 _ _ _ _ w m0 m1 m2 hall).mono ?_
    rintro e w' ⟨rfl, rfl⟩
    exact ⟨rfl, Below.refl _ _⟩
  obtain ⟨hn, rfl, rfl⟩ := hall
  rcases w0 with ⟨rfl, rfl, rfl, rfl⟩ | ⟨x0, rfl, hl0, hm0, hz0, hc0, hw0⟩
  · rcases w1 with ⟨rfl, _, rfl, rfl⟩ | ⟨x1, rfl, hl1, hm1, hz1, hc1, hw1⟩
    · rcases w2 with ⟨rfl, _, rfl, rfl⟩ | ⟨x2, rfl, hl2, hm2, hz2, hc2, hw2⟩
      · exact law_NNN a3 ⟨a4, a5, a6⟩ w
      · exact law_NNS x2 cap2 a3 ⟨a4, a5, a6⟩ w
    · rcases w2 with ⟨rfl, _, rfl, rfl⟩ | ⟨x2, rfl, hl2, hm2, hz2, hc2, hw2⟩
      · exact law_NSN x1 cap1 a3 ⟨a4, a5, a6⟩ w
      · exact law_NSS x1 cap1 x2 cap2 a3 ⟨a4, a5, a6⟩ w
  · rcases w1 with ⟨rfl, h, rfl, rfl⟩ | ⟨x1, rfl, hl1, hm1, hz1, hc1, hw1⟩
    · subst h
      rcases w2 with ⟨rfl, _, rfl, rfl⟩ | ⟨x2, rfl, hl2, hm2, hz2, hc2, hw2⟩
      · exact law_SNN x0 cap0 a3 ⟨a4, a5, a6⟩ w
      · exact law_SNS x0 cap0 x2 cap2 a3 ⟨a4, a5, a6⟩ w
    · rcases w2 with ⟨rfl, h, rfl, rfl⟩ | ⟨x2, rfl, hl2, hm2, hz2, hc2, hw2⟩
      · subst h
        exact law_SSN x0 cap0 x1 cap1 a3 ⟨a4, a5, a6⟩ w
      · exact law_all z0 z1 z2 _ hn (by omega) (by omega) (by omega) x0 cap0 x1 cap1 x2 cap2 a3 ⟨a4, a5, a6⟩ w hc0 hc1 hc2


set_option maxRecDepth 100000 in
theorem lifted (os : Os) (started : os.Started) (H : Type) (enc : TypeId × Value → H) :
    ReturnsInHanded {} Try.checked os 3 .any (Rows.fnFinishGivesMadeSpansAndPendingOpenOneTwiceSpec.pre6 enc Try.prog Try.f3 Rows.fnFinishGivesMadeSpansAndPendingOpenOneTwiceRow.domain false) (Rows.fnFinishGivesMadeSpansAndPendingOpenOneTwiceSpec.post enc Try.prog Try.f3 false true false false) := by
  refine returnsInHanded_of_change (C := Try.checked) own started (by kernel_rfl) Try.func3
    (ChangeSpec.witness6 (enc := enc) (C := Try.checked) false ⟨#[], #[.slice none 0 0, .slice none 0 0, .slice none 0 0, .bool false, .int .i64 0, .int .i64 0, .int .i64 0], []⟩ 8 (by kernel_rfl) (by kernel_rfl) (by kernel_rfl) (by kernel_rfl)) ?_
  intro W base args ds gs before hval0 hW hcnd _
  have hval : ∀ (j : Nat) t v, Try.f3.params[j]? = some t → args[j]? = some v → Value.okWide Try.prog W .any base t v := hval0
  have hW' := hW
  obtain ⟨p, q, hA0, hV, rfl, hfz, hnd⟩ := hW
  have hA : DataW.TrodAll enc Try.prog W 0 (fun _ => true) true Try.f3.params.toList args.toList ds p := hA0
  rw [Try.params3] at hA hval
  obtain ⟨v0, vs0, d0, ds0, p0, q0, hargs, rfl, rfl, h0, r0⟩ := trodAll_cons hA
  obtain ⟨v1, vs1, d1, ds1, p1, q1, rfl, rfl, rfl, h1, r1⟩ := trodAll_cons r0
  obtain ⟨v2, vs2, d2, ds2, p2, q2, rfl, rfl, rfl, h2, r2⟩ := trodAll_cons r1
  obtain ⟨v3, vs3, d3, ds3, p3, q3, rfl, rfl, rfl, h3, r3⟩ := trodAll_cons r2
  obtain ⟨v4, vs4, d4, ds4, p4, q4, rfl, rfl, rfl, h4, r4⟩ := trodAll_cons r3
  obtain ⟨v5, vs5, d5, ds5, p5, q5, rfl, rfl, rfl, h5, r5⟩ := trodAll_cons r4
  obtain ⟨v6, vs6, d6, ds6, p6, q6, rfl, rfl, rfl, h6, r6⟩ := trodAll_cons r5
  obtain ⟨rfl, rfl, rfl⟩ := trodAll_nil r6
  obtain rfl : args = #[v0, v1, v2, v3, v4, v5, v6] := by cases args; simp_all
  obtain ⟨rfl, rfl⟩ := trodVars_none hV
  obtain ⟨a0, len0, cap0, rfl⟩ := okWide_slice Try.underlying22 (hval 0 22 v0 rfl rfl)
  have k0 := h0
  have lt0 : ∀ x ∈ p0, x.block < W.heap.size := by obtain ⟨m, hm⟩ := k0; exact DataW.trod_lt m _ _ _ hm
  obtain ⟨z0, w0⟩ : ∃ zs, IsRow .i64 W a0 len0 cap0 zs := by
    obtain ⟨fuel, hf⟩ := h0
    rcases open_ints Try.underlying22 Try.underlying2 (by kernel_rfl) hf with ⟨hcs, _⟩ | ⟨x, l, c, zs, hcs, _, hl, hm, hz, _, hcell, hwz⟩
    · simp [Value.cells] at hcs
      obtain ⟨rfl, rfl, rfl⟩ := hcs
      exact ⟨[], .inl ⟨rfl, rfl, rfl, rfl⟩⟩
    · simp [Value.cells] at hcs
      obtain ⟨rfl, rfl, rfl⟩ := hcs
      exact ⟨zs, .inr ⟨_, rfl, hl, hm, by simpa using hz, hcell, hwz⟩⟩
  obtain ⟨a1, len1, cap1, rfl⟩ := okWide_slice Try.underlying22 (hval 1 22 v1 rfl rfl)
  have k1 := h1
  have lt1 : ∀ x ∈ p1, x.block < W.heap.size := by obtain ⟨m, hm⟩ := k1; exact DataW.trod_lt m _ _ _ hm
  obtain ⟨z1, w1⟩ : ∃ zs, IsRow .i64 W a1 len1 cap1 zs := by
    obtain ⟨fuel, hf⟩ := h1
    rcases open_ints Try.underlying22 Try.underlying2 (by kernel_rfl) hf with ⟨hcs, _⟩ | ⟨x, l, c, zs, hcs, _, hl, hm, hz, _, hcell, hwz⟩
    · simp [Value.cells] at hcs
      obtain ⟨rfl, rfl, rfl⟩ := hcs
      exact ⟨[], .inl ⟨rfl, rfl, rfl, rfl⟩⟩
    · simp [Value.cells] at hcs
      obtain ⟨rfl, rfl, rfl⟩ := hcs
      exact ⟨zs, .inr ⟨_, rfl, hl, hm, by simpa using hz, hcell, hwz⟩⟩
  obtain ⟨a2, len2, cap2, rfl⟩ := okWide_slice Try.underlying23 (hval 2 23 v2 rfl rfl)
  have k2 := h2
  have lt2 : ∀ x ∈ p2, x.block < W.heap.size := by obtain ⟨m, hm⟩ := k2; exact DataW.trod_lt m _ _ _ hm
  obtain ⟨z2, w2⟩ : ∃ zs, IsRow .i64 W a2 len2 cap2 zs := by
    obtain ⟨fuel, hf⟩ := h2
    rcases open_ints Try.underlying23 Try.underlying3 (by kernel_rfl) hf with ⟨hcs, _⟩ | ⟨x, l, c, zs, hcs, _, hl, hm, hz, _, hcell, hwz⟩
    · simp [Value.cells] at hcs
      obtain ⟨rfl, rfl, rfl⟩ := hcs
      exact ⟨[], .inl ⟨rfl, rfl, rfl, rfl⟩⟩
    · simp [Value.cells] at hcs
      obtain ⟨rfl, rfl, rfl⟩ := hcs
      exact ⟨zs, .inr ⟨_, rfl, hl, hm, by simpa using hz, hcell, hwz⟩⟩
  obtain ⟨a3, rfl, rfl, rfl⟩ := open_bool Try.underlying4 (hval 3 4 v3 rfl rfl) h3
  obtain ⟨a4, rfl, rfl, rfl, w4⟩ := open_int Try.underlying2 (hval 4 2 v4 rfl rfl) h4
  obtain ⟨a5, rfl, rfl, rfl, w5⟩ := open_int Try.underlying2 (hval 5 2 v5 rfl rfl) h5
  obtain ⟨a6, rfl, rfl, rfl, w6⟩ := open_int Try.underlying3 (hval 6 3 v6 rfl rfl) h6
  clear hA0 hval0
  refine (walk a0 len0 cap0 z0 a1 len1 cap1 z1 a2 len2 cap2 z2 a3 a4 a5 a6 W w0 w1 w2 w4 w5 w6).mono fun e W' ⟨he, bel⟩ => ?_
  subst he
  exact ⟨_, rfl, _, _, _, [], _, [], hW', trodAll_mk1 (shut_bool Try.underlying4 _), (trodAll_cons_mk (Below.trod laidOut (by kernel_rfl) (of_decide_eq_true (by kernel_rfl)) k0 bel lt0) (trodAll_cons_mk (Below.trod laidOut (by kernel_rfl) (of_decide_eq_true (by kernel_rfl)) k1 bel lt1) (trodAll_cons_mk (Below.trod laidOut (by kernel_rfl) (of_decide_eq_true (by kernel_rfl)) k2 bel lt2) (trodAll_cons_mk (shut_bool Try.underlying4 _) (trodAll_cons_mk (shut_int Try.underlying2 w4) (trodAll_cons_mk (shut_int Try.underlying2 w5) (trodAll_cons_mk (shut_int Try.underlying3 w6) trodAll_mk0))))))), rfl, bel.frame _, fun h => by cases h⟩

theorem over : Rows.fnFinishGivesMadeSpansAndPendingOpenOneTwiceRow.holds Try.pinned (OpenSpec.ofChange Rows.fnFinishGivesMadeSpansAndPendingOpenOneTwiceSpec) :=
  OpenClaim.holds_of_wide 3 Try.f3 rfl rfl rfl rfl rfl rfl rfl ⟨rfl, rfl, rfl, rfl, rfl⟩ rfl rfl rfl rfl rfl (by kernel_rfl) Try.func3 (by kernel_rfl)
    (of_decide_eq_true (by kernel_rfl)) (by unfold Func.isWrapper; first | (rw [if_pos (by decide +kernel)]; kernel_rfl) | (rw [if_neg (by decide +kernel)]; exact ⟨rfl, rfl⟩))
    (fun os started H enc _ => lifted os started H enc)

/-- ████ THE STATEMENT ████ -/
theorem proved : Rows.FnFinishGivesMadeSpansAndPendingOpenOneTwiceSaid := over
#print axioms proved
end Go.Proofs.Qxb6615596a.fnFinishGivesMadeSpansAndPendingOpenOneTwice
