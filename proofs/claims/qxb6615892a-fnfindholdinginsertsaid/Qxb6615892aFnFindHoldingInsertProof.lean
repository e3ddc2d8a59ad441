/-
  THE STATEMENT 'Rows.FnFindHoldingInsertSaid' (seat b6615892a): the frame of the other rows' shells turned to slices of strings; its walk out of Qxb6615892aEarly and Qxb6615892aMain...
-/
import Derived.Test.Qxb6615892aRows
import Derived.Test.Qxb6615892aEarly
import Derived.Test.Qxb6615892aMainSS
import Derived.Test.Qxb6615892aMainSN
import Derived.Test.Qxb6615892aMainNS
import Derived.Test.Qxb6615892aMainNN
import Derived.WalkKit
import Derived.ProofKit
import Derived.OpenShut
import Derived.ShutString
import Derived.ChangeOld
import Derived.SliceStrings
import Derived.Below
namespace Go.Proofs.Qxb6615892a.fnFindHoldingInsert
open Go.ChangeShapes Go.WideShapes Go.ChangeAt Go.RowKit
open Go.ChangeMaps (open_string shut_string)
set_option linter.unusedVariables false

theorem own : ownKnob Try.prog.godebug = none := by kernel_rfl
theorem laidOut : laidOutB Try.prog = true := by kernel_rfl

/-- A slice of strings that came in: nil, or a row of strings. -/
def IsRow (w : World) (a : Option Addr) (len cap : Nat) (ss : List ByteArray) : Prop :=
  (a = none ∧ len = 0 ∧ cap = 0 ∧ ss = []) ∨
  ∃ x, a = some x ∧ len ≤ cap ∧ cap ≤ maxLen ∧ ss.length = cap ∧ ∀ i, i < ss.length → w.cell? (x.add i) = some (.string (ss.getD i ByteArray.empty))

theorem row_len {w : World} {a : Option Addr} {len cap : Nat} {ss : List ByteArray} (h : IsRow w a len cap ss) : len ≤ 9223372036854775807 := by
  rcases h with ⟨_, rfl, _⟩ | ⟨x, _, hl, hm, _⟩
  · omega
  · unfold maxLen at hm; omega
theorem row_take {w : World} {a : Option Addr} {len cap : Nat} {ss : List ByteArray} (h : IsRow w a len cap ss) : (ss.take len).length = len := by
  rcases h with ⟨_, rfl, _, rfl⟩ | ⟨x, _, hl, hm, hs, _⟩
  · rfl
  · rw [List.length_take]; omega
theorem row_ws {w : World} {a : Option Addr} {len cap : Nat} {ss : List ByteArray} (h : IsRow w a len cap ss) : Ws w a (ss.take len) := by
  intro k hk
  rcases h with ⟨_, rfl, _, rfl⟩ | ⟨x, rfl, hl, hm, hs, hc⟩
  · simp at hk
  · have hk' : k < ss.length := by simp at hk; omega
    obtain ⟨b, o, sp⟩ := x
    obtain rfl : sp = none := by simpa [Addr.add] using World.cell?_spot (hc 0 (by omega))
    have h1 := hc k hk'
    rw [Addr.add_mid] at h1
    refine ⟨b, o, rfl, World.block_lt_of_cell? _ _ h1, ?_⟩
    rw [h1, List.getElem_take]
    simp [hk']


theorem walk (a0 : Option Addr) (len0 cap0 : Nat) (s0 : List ByteArray) (a1 : Option Addr) (len1 cap1 : Nat) (s1 : List ByteArray) (a2 : ByteArray) (a3 : Int) (a4 : ByteArray) (w : World) (w0 : IsRow w a0 len0 cap0 s0) (w1 : IsRow w a1 len1 cap1 s1) :
    Calls Try.prog 5 #[.slice a0 len0 cap0, .slice a1 len1 cap1, .string a2, .int .i64 a3, .string a4] w fun e w' => e = .returned (.bool true) ∧ Below w.heap.size w w' := by
  have m0 := row_len w0
  have m1 := row_len w1
  have l0 := row_take w0
  have l1 := row_take w1
  have v0 := row_ws w0
  have v1 := row_ws w1
  by_cases hall : len0 ≤ 65536 ∧ len1 ≤ 65536 ∧ a2.size ≤ 65536 ∧ a4.size ≤ 65536 ∧ len1 = len0 ∧ 0 ≤ a3 ∧ a3 ≤ (len0 : Int)
  case neg =>
    refine (early a0 a1 len0 len1 cap0 cap1 _ _ a2 a4 a3 w m0 m1 l0 l1 v0 v1 hall).mono ?_
    rintro e w' ⟨rfl, rfl⟩
    exact ⟨rfl, Below.refl _ _⟩
  obtain ⟨hn, _, z1, z2, rfl, p0, p1⟩ := hall
  obtain ⟨q, rfl⟩ := Int.eq_ofNat_of_zero_le p0
  have hq : q ≤ len1 := by omega
  rcases w0 with ⟨rfl, h0, rfl, rfl⟩ | ⟨x, rfl, hl, hm, hs, hc⟩
  · subst h0
    rcases w1 with ⟨rfl, _, rfl, rfl⟩ | ⟨y, rfl, hl', hm', hs', hc'⟩
    · exact main_nn ⟨0, 0, none⟩ ⟨0, 0, none⟩ 0 0 0 q _ _ a2 a4 w hn rfl l0 l1 hq z1 z2 v0 v1
    · exact main_ns ⟨0, 0, none⟩ y 0 0 cap1 q _ _ a2 a4 w hn rfl l0 l1 hq z1 z2 v0 v1
  · rcases w1 with ⟨rfl, h0, rfl, rfl⟩ | ⟨y, rfl, hl', hm', hs', hc'⟩
    · subst h0
      exact main_sn x ⟨0, 0, none⟩ 0 cap0 0 q _ _ a2 a4 w hn rfl l0 l1 hq z1 z2 v0 v1
    · exact main_ss x y len1 cap0 cap1 q _ _ a2 a4 w hn l0 l1 hq z1 z2 v0 v1


set_option maxRecDepth 100000 in
theorem lifted (os : Os) (started : os.Started) (H : Type) (enc : TypeId × Value → H) :
    ReturnsInHanded {} Try.checked os 5 .any (Rows.fnFindHoldingInsertSpec.pre6 enc Try.prog Try.f5 Rows.fnFindHoldingInsertRow.domain false) (Rows.fnFindHoldingInsertSpec.post enc Try.prog Try.f5 false true false false) := by
  refine returnsInHanded_of_change (C := Try.checked) own started (by kernel_rfl) Try.func5
    (ChangeSpec.witness6 (enc := enc) (C := Try.checked) false ⟨#[], #[.slice none 0 0, .slice none 0 0, .string ByteArray.empty, .int .i64 0, .string ByteArray.empty], []⟩ 8 (by kernel_rfl) (by kernel_rfl) (by kernel_rfl) (by kernel_rfl)) ?_
  intro W base args ds gs before hval0 hW hcnd _
  have hval : ∀ (j : Nat) t v, Try.f5.params[j]? = some t → args[j]? = some v → Value.okWide Try.prog W .any base t v := hval0
  have hW' := hW
  obtain ⟨p, q, hA0, hV, rfl, hfz, hnd⟩ := hW
  have hA : DataW.TrodAll enc Try.prog W 0 (fun _ => true) true Try.f5.params.toList args.toList ds p := hA0
  rw [Try.params5] at hA hval
  obtain ⟨v0, vs0, d0, ds0, p0, q0, hargs, rfl, rfl, h0, r0⟩ := trodAll_cons hA
  obtain ⟨v1, vs1, d1, ds1, p1, q1, rfl, rfl, rfl, h1, r1⟩ := trodAll_cons r0
  obtain ⟨v2, vs2, d2, ds2, p2, q2, rfl, rfl, rfl, h2, r2⟩ := trodAll_cons r1
  obtain ⟨v3, vs3, d3, ds3, p3, q3, rfl, rfl, rfl, h3, r3⟩ := trodAll_cons r2
  obtain ⟨v4, vs4, d4, ds4, p4, q4, rfl, rfl, rfl, h4, r4⟩ := trodAll_cons r3
  obtain ⟨rfl, rfl, rfl⟩ := trodAll_nil r4
  obtain rfl : args = #[v0, v1, v2, v3, v4] := by cases args; simp_all
  obtain ⟨rfl, rfl⟩ := trodVars_none hV
  obtain ⟨a0, len0, cap0, rfl⟩ := okWide_slice Try.underlying26 (hval 0 26 v0 rfl rfl)
  have k0 := h0
  have lt0 : ∀ x ∈ p0, x.block < W.heap.size := by obtain ⟨m, hm⟩ := k0; exact DataW.trod_lt m _ _ _ hm
  obtain ⟨s0, w0⟩ : ∃ ss, IsRow W a0 len0 cap0 ss := by
    obtain ⟨fuel, hf⟩ := h0
    rcases open_strings Try.underlying26 Try.underlying9 (by kernel_rfl) hf with ⟨hcs, _⟩ | ⟨x, l, c, ss, hcs, _, hl, hm, hz, _, hcell, _⟩
    · simp [Value.cells] at hcs
      obtain ⟨rfl, rfl, rfl⟩ := hcs
      exact ⟨[], .inl ⟨rfl, rfl, rfl, rfl⟩⟩
    · simp [Value.cells] at hcs
      obtain ⟨rfl, rfl, rfl⟩ := hcs
      exact ⟨ss, .inr ⟨_, rfl, hl, hm, by simpa using hz, hcell⟩⟩
  obtain ⟨a1, len1, cap1, rfl⟩ := okWide_slice Try.underlying26 (hval 1 26 v1 rfl rfl)
  have k1 := h1
  have lt1 : ∀ x ∈ p1, x.block < W.heap.size := by obtain ⟨m, hm⟩ := k1; exact DataW.trod_lt m _ _ _ hm
  obtain ⟨s1, w1⟩ : ∃ ss, IsRow W a1 len1 cap1 ss := by
    obtain ⟨fuel, hf⟩ := h1
    rcases open_strings Try.underlying26 Try.underlying9 (by kernel_rfl) hf with ⟨hcs, _⟩ | ⟨x, l, c, ss, hcs, _, hl, hm, hz, _, hcell, _⟩
    · simp [Value.cells] at hcs
      obtain ⟨rfl, rfl, rfl⟩ := hcs
      exact ⟨[], .inl ⟨rfl, rfl, rfl, rfl⟩⟩
    · simp [Value.cells] at hcs
      obtain ⟨rfl, rfl, rfl⟩ := hcs
      exact ⟨ss, .inr ⟨_, rfl, hl, hm, by simpa using hz, hcell⟩⟩
  obtain ⟨a2, rfl, rfl, rfl, w2⟩ := open_string Try.underlying9 (hval 2 9 v2 rfl rfl) h2
  obtain ⟨a3, rfl, rfl, rfl, w3⟩ := open_int Try.underlying3 (hval 3 3 v3 rfl rfl) h3
  obtain ⟨a4, rfl, rfl, rfl, w4⟩ := open_string Try.underlying9 (hval 4 9 v4 rfl rfl) h4
  clear hA0 hval0
  refine (walk a0 len0 cap0 s0 a1 len1 cap1 s1 a2 a3 a4 W w0 w1).mono fun e W' ⟨he, bel⟩ => ?_
  subst he
  exact ⟨_, rfl, _, _, _, [], _, [], hW', trodAll_mk1 (shut_bool Try.underlying4 _), (trodAll_cons_mk (Below.trod laidOut (by kernel_rfl) (of_decide_eq_true (by kernel_rfl)) k0 bel lt0) (trodAll_cons_mk (Below.trod laidOut (by kernel_rfl) (of_decide_eq_true (by kernel_rfl)) k1 bel lt1) (trodAll_cons_mk (shut_string Try.underlying9 w2) (trodAll_cons_mk (shut_int Try.underlying3 w3) (trodAll_cons_mk (shut_string Try.underlying9 w4) trodAll_mk0))))), rfl, bel.frame _, fun h => by cases h⟩

theorem over : Rows.fnFindHoldingInsertRow.holds Try.pinned (OpenSpec.ofChange Rows.fnFindHoldingInsertSpec) :=
  OpenClaim.holds_of_wide 5 Try.f5 rfl rfl rfl rfl rfl rfl rfl ⟨rfl, rfl, rfl, rfl, rfl⟩ rfl rfl rfl rfl rfl (by kernel_rfl) Try.func5 (by kernel_rfl)
    (of_decide_eq_true (by kernel_rfl)) (by unfold Func.isWrapper; first | (rw [if_pos (by decide +kernel)]; kernel_rfl) | (rw [if_neg (by decide +kernel)]; exact ⟨rfl, rfl⟩))
    (fun os started H enc _ => lifted os started H enc)

/-- ████ THE STATEMENT ████ -/
theorem proved : Rows.FnFindHoldingInsertSaid := over
#print axioms proved
end Go.Proofs.Qxb6615892a.fnFindHoldingInsert
