/-
  WHAT BOTH ROWS SHARE (seat b6614854aD): the listed tables met by the door's own heap; the table of powers of ten out of the condition; the argument's row as it is read.
-/
import Derived.Test.Qxb6614854aDoorApp2
import Derived.ProofKit
import Derived.LaidMore
import Derived.Lib.LaidTab
namespace Go.Proofs.Qxb6614854aDoor
open Go.ChangeShapes Go.WideShapes Go.ChangeAt Go.WideMaps Go.WideElems Go.RowKit

theorem own : ownKnob Tryd.prog.godebug = none := by kernel_rfl
theorem laidOut : laidOutB Tryd.prog = true := by kernel_rfl

/-- The list of the rows' cell 'laid'. -/
def laid3 : List (String × DataW Unit) := Rows.fnAppendIntegerWritesCanonicalDecimalRow.laid

theorem door_met (os : Os) (args : Array Value) : laidMetH Tryd.prog laid3 ((World.doorLaid Tryd.prog 24 os).forCall (fun _ _ => 0) ⟨#[], args, []⟩).memory :=
  laidMetH_of_parts3 (fuel := 8) (laidMet_of_run' 8 (by kernel_rfl) (by kernel_rfl)) (by kernel_rfl) (by kernel_rfl)

theorem gTab : Tryd.prog.globalNamed tabName = some 0 := by kernel_rfl
theorem tTab : (Tryd.prog.globals[0]?).map (·.type) = some 70 := by kernel_rfl
theorem cTab : Tryd.prog.cellsOf 70 = 20 := by kernel_rfl
theorem c27 : Tryd.prog.cellsOf 27 = 1 := by kernel_rfl
theorem tabDatum : (Rows.laid_internal_strconv_uint64pow10 : DataW Unit) = Lib.tabData .u64 Lib.pow10Tab := by kernel_rfl

/-- What the condition gives the walks. -/
theorem of_laid {W : World} (h : laidMetH Tryd.prog laid3 W) : Tab W := by
  rw [MakeChecks.laidMetH_plain _ _ _ (by kernel_rfl)] at h
  obtain ⟨ps, ⟨_, _, _, _, _, _, _, _, _, _, ⟨_, _, _, _, _, _, _, _, _, _, ⟨g, t, cs, fuel, p, q, hg, ht, hv, hd, _, _⟩, _⟩, _⟩, _, _⟩ := h
  obtain rfl := Option.some.inj (gTab.symm.trans hg)
  obtain rfl := Option.some.inj (tTab.symm.trans ht)
  rw [tabDatum] at hd
  have e := Lib.cells_of_tab Tryd.underlying70 Tryd.underlying27 c27 cTab hd
  show W.var? Tryd.prog tabName = some (Lib.pow10Tab.map fun z => Value.int .u64 z).toArray
  rw [← e]
  exact hv

/-- WHAT THE WALK IS TOLD OF A SLICE OF INTEGERS THAT CAME IN. -/
def IsRow (k : IntKind) (w : World) (a : Option Addr) (len cap : Nat) (zs : List Int) : Prop :=
  (a = none ∧ len = 0 ∧ cap = 0 ∧ zs = []) ∨
  ∃ x, a = some x ∧ len ≤ cap ∧ cap ≤ maxLen ∧ zs.length = cap ∧ (∀ i, i < zs.length → w.cell? (x.add i) = some (.int k (zs.getD i 0))) ∧ ∀ n ∈ zs, (Lit.int k n).wf = true

/-- cloneBytes at the argument, in whatever later world. -/
theorem clone_arg (a : Option Addr) (len cap : Nat) (zs : List Int) (w : World) (h : IsRow .u8 w a len cap zs) (hn : len ≤ 1048576) :
    ∃ l : List Int, l.length = len ∧ ∀ w1, Below w.heap.size w w1 → Calls Tryd.prog 6 #[.slice a len cap] w1 fun e w' => ∃ v', e = .returned v' ∧ Cp w' v' l ∧ Below w1.heap.size w1 w' := by
  rcases h with ⟨rfl, rfl, rfl, rfl⟩ | ⟨x, rfl, hl, hm, hz, hc, hw⟩
  · refine ⟨[], rfl, fun w1 _ => (clone_nil w1).mono ?_⟩
    rintro e w' ⟨rfl, rfl⟩
    exact ⟨_, rfl, Cp.nil _, Below.refl _ _⟩
  · have htl : (zs.take len).length = len := by rw [List.length_take]; omega
    refine ⟨zs.take len, htl, fun w1 hb => ?_⟩
    have hc1 : ∀ j (h : j < len), w1.cell? (x.add j) = some (.int .u8 (zs[j]'(by omega))) := by
      intro j hj
      have h0 := hc j (by omega)
      have hlt := World.block_lt_of_cell? _ _ h0
      rw [hb.cell (p := x.add j) hlt, h0]
      simp [List.getD, show j < zs.length by omega]
    have hlt : 0 < len → x.block < w1.heap.size := by
      intro h0
      have := World.block_lt_of_cell? _ _ (hc1 0 h0)
      simpa [Addr.add] using this
    refine (clone_some x len cap zs w1 (by omega) (by omega) hc1 hlt).mono ?_
    rintro e w' ⟨rfl, ho, hb'⟩
    refine ⟨_, rfl, .inr ⟨w1.heap.size, by rw [htl], ?_, fun j hj => ?_⟩, hb'⟩
    · rcases ho.2 with ⟨h', _⟩ | ⟨g', cap', cur, h', _, hh, _⟩
      · simp at h'
      · simp only [Value.slice.injEq, Option.some.injEq, Addr.mk.injEq, and_true, true_and] at h'
        obtain ⟨rfl, rfl⟩ := h'
        rcases Nat.lt_or_ge w1.heap.size w'.heap.size with h1 | h1
        · exact h1
        · rw [Array.getElem?_eq_none h1] at hh; cases hh
    · rw [ho.cellAt j (by omega), cs_get _ j hj]

/-- A row longer than the bound: the law answers true at once. -/
theorem zzBytes3_long (a : Option Addr) (n c : Nat) (x1 x2 x3 x4 x5 x6 x7 x8 : Value) (w : World) (hn : 1048576 < n) :
    Calls Tryd.prog 5 #[.slice a n c, x1, x2, x3, x4, x5, x6, x7, x8] w fun e w' => e = .returned (.bool false) ∧ w' = w := by
  have h1 : (1048576 : Int) < (n : Int) := by omega
  go_enter Tryd.func5, Tryd.ntmps5
  go_wp2
  go_ret
  exact ⟨rfl, rfl⟩

set_option maxRecDepth 100000 in
theorem law1_long (a : Option Addr) (n c : Nat) (x1 x2 x3 x4 x5 x6 x7 x8 : Value) (w : World) (hn : 1048576 < n) :
    Calls Tryd.prog 3 #[.slice a n c, x1, x2, x3, x4, x5, x6, x7, x8] w fun e w' => e = .returned (.bool true) ∧ w' = w := by
  go_enter Tryd.func3, Tryd.ntmps3
  go_wp2_with (go_at_call 5; refine (zzBytes3_long a n c _ _ _ _ _ _ _ _ _ hn).mono ?_; rintro e w' ⟨rfl, rfl⟩)
  go_ret
  exact ⟨rfl, rfl⟩

theorem walk1 (a : Option Addr) (len cap : Nat) (zs : List Int) (w : World) (h : IsRow .u8 w a len cap zs) (tab : Tab w)
    (x1 x2 x3 x4 : Int) (x5 x6 x7 x8 : Nat) (lx1 : -128 ≤ x1) (ux1 : x1 ≤ 127) (lx2 : -32768 ≤ x2) (ux2 : x2 ≤ 32767) (lx3 : -2147483648 ≤ x3) (ux3 : x3 ≤ 2147483647) (lx4 : -9223372036854775808 ≤ x4) (ux4 : x4 ≤ 9223372036854775807) (ux5 : x5 ≤ 255) (ux6 : x6 ≤ 65535) (ux7 : x7 ≤ 4294967295) (ux8 : x8 ≤ 18446744073709551615) :
    Calls Tryd.prog 3 #[.slice a len cap, .int .i8 x1, .int .i16 x2, .int .i32 x3, .int .i64 x4, .int .u8 (x5 : Int), .int .u16 (x6 : Int), .int .u32 (x7 : Int), .int .u64 (x8 : Int)] w fun e w' => e = .returned (.bool true) ∧ Below w.heap.size w w' := by
  by_cases hn : len ≤ 1048576
  · obtain ⟨l, hl, hc⟩ := clone_arg a len cap zs w h hn
    exact law1_core appInt appUint l x1 x2 x3 x4 x5 x6 x7 x8 a len cap w lx1 ux1 lx2 ux2 lx3 ux3 lx4 ux4 ux5 ux6 ux7 ux8 hn hl tab hc
  · refine (law1_long a len cap _ _ _ _ _ _ _ _ w (by omega)).mono ?_
    rintro e w' ⟨rfl, rfl⟩
    exact ⟨rfl, Below.refl _ _⟩
end Go.Proofs.Qxb6614854aDoor
