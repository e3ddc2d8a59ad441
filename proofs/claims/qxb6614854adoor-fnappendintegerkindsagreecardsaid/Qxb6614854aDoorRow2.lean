/-
  THE STATEMENT 'Rows.FnAppendIntegerKindsAgreeCardSaid' (seat b6614854aD): the row's step and the tied card, over the walk.
-/
import Derived.Test.Qxb6614854aDoorLaw2
import Derived.Test.Qxb6614854aDoorApp2
import Derived.Test.Qxb6614854aDoorOpen
import Derived.Test.Qxb6614854aDoorTie
import Derived.Test.Qxb6614854aDoorCards
import Derived.ProofKit
import Derived.OpenShut
import Derived.ShutString
import Derived.ChangeOld
import Derived.LaidMore
import Derived.Stop.Joined
import Derived.SevenTiedAt
namespace Go.Proofs.Qxb6614854aDoor.fnAppendIntegerKindsAgree
open Go.ChangeShapes Go.WideShapes Go.ChangeAt Go.WideMaps Go.WideElems Go.RowKit
open Go.ChangeMaps (open_string shut_string)
set_option linter.unusedVariables false

set_option maxRecDepth 100000 in
theorem lifted (os : Os) (started : os.Started) (H : Type) (enc : TypeId × Value → H) :
    ReturnsInHanded {} Tryd.checked os 4 .any (fun w args => (Rows.fnAppendIntegerKindsAgreeSpec.pre enc Tryd.prog Tryd.f4 [] false w args ∧ laidMetH Tryd.prog laid3 w) ∧ sizedMet enc Tryd.prog Tryd.f4 (OpenSpec.ofChange Rows.fnAppendIntegerKindsAgreeSpec) false w args)
      (Rows.fnAppendIntegerKindsAgreeSpec.post enc Tryd.prog Tryd.f4 false true false false) := by
  refine returnsInHanded_of_change_and (C := Tryd.checked) (X := fun w _ => laidMetH Tryd.prog laid3 w) (fun _ _ _ hh h => h.of_heap hh) own started (by kernel_rfl) Tryd.func4
    (ChangeSpec.witness_shaped (enc := enc) (C := Tryd.checked) (os := os) (X := fun w _ => laidMetH Tryd.prog laid3 w) false (World.doorLaid Tryd.prog 24 os) #[.slice none 0 0, .int .i8 0, .int .i16 0, .int .i32 0, .int .i64 0, .int .u8 0, .int .u16 0, .int .u32 0, .float .f32 0] 8 rfl (World.shaped_of_RefB (by kernel_rfl) (by kernel_rfl)) (by kernel_rfl) (by kernel_rfl) (by kernel_rfl) (door_met os _)) ?_
  intro W base args ds gs before hval0 hW _ _ hL _
  have hval : ∀ (j : Nat) t v, Tryd.f4.params[j]? = some t → args[j]? = some v → Value.okWide Tryd.prog W .any base t v := hval0
  have hW' := hW
  obtain ⟨p, q, hA0, hV, rfl, hfz, hnd⟩ := hW
  have hA : DataW.TrodAll enc Tryd.prog W 0 (fun _ => true) true Tryd.f4.params.toList args.toList ds p := hA0
  rw [Tryd.params4] at hA hval
  obtain ⟨v0, vs0, d0, ds0, p0, q0, hargs, rfl, rfl, h0, r0⟩ := trodAll_cons hA
  obtain ⟨v1, vs1, d1, ds1, p1, q1, rfl, rfl, rfl, h1, r1⟩ := trodAll_cons r0
  obtain ⟨v2, vs2, d2, ds2, p2, q2, rfl, rfl, rfl, h2, r2⟩ := trodAll_cons r1
  obtain ⟨v3, vs3, d3, ds3, p3, q3, rfl, rfl, rfl, h3, r3⟩ := trodAll_cons r2
  obtain ⟨v4, vs4, d4, ds4, p4, q4, rfl, rfl, rfl, h4, r4⟩ := trodAll_cons r3
  obtain ⟨v5, vs5, d5, ds5, p5, q5, rfl, rfl, rfl, h5, r5⟩ := trodAll_cons r4
  obtain ⟨v6, vs6, d6, ds6, p6, q6, rfl, rfl, rfl, h6, r6⟩ := trodAll_cons r5
  obtain ⟨v7, vs7, d7, ds7, p7, q7, rfl, rfl, rfl, h7, r7⟩ := trodAll_cons r6
  obtain ⟨v8, vs8, d8, ds8, p8, q8, rfl, rfl, rfl, h8, r8⟩ := trodAll_cons r7
  obtain ⟨rfl, rfl, rfl⟩ := trodAll_nil r8
  obtain rfl : args = #[v0, v1, v2, v3, v4, v5, v6, v7, v8] := by cases args; simp_all
  obtain ⟨rfl, rfl⟩ := trodVars_none hV
  obtain ⟨a0, len0, cap0, rfl⟩ := okWide_slice Tryd.underlying22 (hval 0 22 v0 rfl rfl)
  have k0 := h0
  have lt0 : ∀ x ∈ p0, x.block < W.heap.size := by obtain ⟨m, hm⟩ := k0; exact DataW.trod_lt m _ _ _ hm
  obtain ⟨z0, w0⟩ : ∃ zs, IsRow .u8 W a0 len0 cap0 zs := by
    obtain ⟨fuel, hf⟩ := h0
    rcases open_ints Tryd.underlying22 Tryd.underlying5 (by kernel_rfl) hf with ⟨hcs, _⟩ | ⟨x, l, c, zs, hcs, _, hl, hm, hz, _, hcell, hwz⟩
    · simp [Value.cells] at hcs
      obtain ⟨rfl, rfl, rfl⟩ := hcs
      exact ⟨[], .inl ⟨rfl, rfl, rfl, rfl⟩⟩
    · simp [Value.cells] at hcs
      obtain ⟨rfl, rfl, rfl⟩ := hcs
      exact ⟨zs, .inr ⟨_, rfl, hl, hm, by simpa using hz, hcell, hwz⟩⟩
  obtain ⟨x1, rfl, rfl, rfl, wx1⟩ := open_int Tryd.underlying23 (hval 1 23 v1 rfl rfl) h1
  have bd1 := bounds_i8 wx1
  obtain ⟨x2, rfl, rfl, rfl, wx2⟩ := open_int Tryd.underlying24 (hval 2 24 v2 rfl rfl) h2
  have bd2 := bounds_i16 wx2
  obtain ⟨x3, rfl, rfl, rfl, wx3⟩ := open_int Tryd.underlying21 (hval 3 21 v3 rfl rfl) h3
  have bd3 := bounds_i32 wx3
  obtain ⟨x4, rfl, rfl, rfl, wx4⟩ := open_int Tryd.underlying2 (hval 4 2 v4 rfl rfl) h4
  have bd4 := bounds_i64 wx4
  obtain ⟨x5, rfl, rfl, rfl, wx5⟩ := open_int Tryd.underlying5 (hval 5 5 v5 rfl rfl) h5
  have bd5 := bounds_u8 wx5
  obtain ⟨x6, rfl, rfl, rfl, wx6⟩ := open_int Tryd.underlying25 (hval 6 25 v6 rfl rfl) h6
  have bd6 := bounds_u16 wx6
  obtain ⟨x7, rfl, rfl, rfl, wx7⟩ := open_int Tryd.underlying26 (hval 7 26 v7 rfl rfl) h7
  have bd7 := bounds_u32 wx7
  have k8 := h8
  have lt8 : ∀ x ∈ p8, x.block < W.heap.size := by obtain ⟨m, hm⟩ := k8; exact DataW.trod_lt m _ _ _ hm
  have tab := of_laid hL
  clear hA0 hval0
  obtain ⟨y5, rfl⟩ : ∃ y : Nat, x5 = (y : Int) := ⟨x5.toNat, by omega⟩
  obtain ⟨y6, rfl⟩ : ∃ y : Nat, x6 = (y : Int) := ⟨x6.toNat, by omega⟩
  obtain ⟨y7, rfl⟩ : ∃ y : Nat, x7 = (y : Int) := ⟨x7.toNat, by omega⟩
  refine (walk2 a0 len0 cap0 z0 W w0 tab x1 x2 x3 x4 y5 y6 y7 v8 bd1.1 bd1.2 bd2.1 bd2.2 bd3.1 bd3.2 bd4.1 bd4.2 (by omega) (by omega) (by omega)).mono fun e W' ⟨he, bel⟩ => ?_
  subst he
  exact ⟨_, rfl, _, _, _, [], _, [], hW', trodAll_mk1 (shut_bool Tryd.underlying4 _), (trodAll_cons_mk (Below.trod laidOut (by kernel_rfl) (of_decide_eq_true (by kernel_rfl)) k0 bel lt0) (trodAll_cons_mk (shut_int Tryd.underlying23 wx1) (trodAll_cons_mk (shut_int Tryd.underlying24 wx2) (trodAll_cons_mk (shut_int Tryd.underlying21 wx3) (trodAll_cons_mk (shut_int Tryd.underlying2 wx4) (trodAll_cons_mk (shut_int Tryd.underlying5 wx5) (trodAll_cons_mk (shut_int Tryd.underlying25 wx6) (trodAll_cons_mk (shut_int Tryd.underlying26 wx7) (trodAll_cons_mk (Below.trod laidOut (by kernel_rfl) (of_decide_eq_true (by kernel_rfl)) k8 bel lt8) trodAll_mk0))))))))), rfl, bel.frame _, fun h => by cases h⟩

theorem row_holds : Rows.FnAppendIntegerKindsAgreeSaid :=
  OpenClaim.holds_of_wide 4 Tryd.f4 rfl rfl rfl rfl rfl rfl rfl ⟨rfl, rfl, rfl, rfl, rfl⟩ rfl rfl rfl rfl rfl (by kernel_rfl) Tryd.func4 (by kernel_rfl)
    (of_decide_eq_true (by kernel_rfl)) (by unfold Func.isWrapper; first | (rw [if_pos (by decide +kernel)]; kernel_rfl) | (rw [if_neg (by decide +kernel)]; exact ⟨rfl, rfl⟩))
    (fun os started H enc _ => lifted os started H enc)

/-- THE STATEMENT. -/
theorem proved : Rows.FnAppendIntegerKindsAgreeCardSaid :=
  Claim7.holds_tied_plain_at .later [] [.data, .data, .data] true Rows.fnAppendIntegerKindsAgreeCard.stood.harness true
    row_holds (fun _ h => by cases h) (by kernel_rfl) (fun _ h => by cases h) fnAppendIntegerKindsAgree_row_tie rfl ⟨rfl, rfl⟩ (by kernel_rfl) (by kernel_rfl)
    (fun f fn hf hfn => by
      obtain rfl : f = 4 := Option.some.inj ((show Tryd.prog.funcNamed Rows.fnAppendIntegerKindsAgreeRow.func = some 4 by kernel_rfl).symm.trans hf) |>.symm
      obtain rfl : fn = Tryd.f4 := (Option.some.inj (Tryd.func4.symm.trans hfn)).symm
      exact ⟨by kernel_rfl, fun j t ht => by
        rw [Tryd.params4] at ht
        have hm : t ∈ [22, 23, 24, 21, 2, 5, 25, 26, 41] := by simpa using Array.mem_of_getElem? ht
        have hall : ([22, 23, 24, 21, 2, 5, 25, 26, 41].all fun u => !Tryd.prog.wantsStandIn u) = true := by kernel_rfl
        exact (show Tryd.prog.wantsStandIn t = false by simpa using List.all_eq_true.1 hall t hm)⟩)
    (by kernel_rfl)
#print axioms proved
end Go.Proofs.Qxb6614854aDoor.fnAppendIntegerKindsAgree
