/-
  SPANS IN MEMORY (seat b6615596a): the cells of a span, of a list of spans; ZZspanAt, ZZopenNil.
-/
import Derived.Test.Qxb6615596aRows
import Derived.WalkKit
import Derived.WalkLawsBesides
import Derived.WalkSpells
import Derived.WalkSmall
import Derived.OwnWalk
import Derived.Below
import Derived.Lib.Hide
import Derived.Deep.QuietTactic
import Derived.BigQuiet
import Derived.Deep.RegionHeld3
import Derived.Deep.AppendLies
import Derived.Laws.CopyOwn
namespace Go.Proofs.Qxb6615596a
open Go.RowKit
set_option linter.unusedVariables false

/-- A span: its low and high seq, its pending count. -/
structure Sp where
  lo : Int
  hi : Int
  p : Int

/-- Its five cells: no keys, no watch. -/
def Sp.cells (s : Sp) : List Value := [.int .i64 s.lo, .int .i64 s.hi, .map none, .int .i64 s.p, .slice none 0 0]
/-- The cells of a list of spans. -/
def flat : List Sp → List Value
  | [] => []
  | s :: r => s.cells ++ flat r
theorem flat_length : ∀ l : List Sp, (flat l).length = l.length * 5
  | [] => rfl
  | s :: r => by simp only [flat, List.length_append, flat_length r, List.length_cons, Sp.cells, List.length_nil]; omega
theorem flat_append : ∀ l r : List Sp, flat (l ++ r) = flat l ++ flat r
  | [], r => rfl
  | s :: l, r => by simp only [List.cons_append, flat, flat_append l r, List.append_assoc]
theorem flat_one (s : Sp) : flat [s] = s.cells := by simp [flat]
theorem flat_get : ∀ (l : List Sp) (k j : Nat) (h : k < l.length), j < 5 → (flat l)[k * 5 + j]? = (l[k].cells)[j]?
  | s :: r, 0, j, h, hj => by
    simp only [flat, Nat.zero_mul, Nat.zero_add]
    rw [List.getElem?_append_left (by simp [Sp.cells]; omega)]
    rfl
  | s :: r, k + 1, j, h, hj => by
    simp only [flat]
    rw [List.getElem?_append_right (by simp [Sp.cells]; omega)]
    have e : (k + 1) * 5 + j - s.cells.length = k * 5 + j := by simp [Sp.cells]; omega
    rw [e, flat_get r k j (by simpa using h) hj]
    rfl

theorem info47 : (Try.prog.info? 47).map (fun i => (i.zero, i.size, i.bytes)) = some (some (.agg #[.int .i64 0, .int .i64 0, .map none, .int .i64 0, .slice none 0 0]), 5, 56) := by kernel_rfl
theorem info2 : (Try.prog.info? 2).map (fun i => (i.zero, i.size, i.bytes)) = some (some (.int .i64 0), 1, 8) := by kernel_rfl
theorem info3 : (Try.prog.info? 3).map (fun i => (i.zero, i.size, i.bytes)) = some (some (.int .i64 0), 1, 8) := by kernel_rfl

/-- What a slice of spans reads as. -/
def Sv (w : World) (v : Value) (l : List Sp) : Prop :=
  (v = .slice none 0 0 ∧ l = []) ∨
  ∃ g cap, v = .slice (some ⟨g, 0, none⟩) l.length cap ∧ g < w.heap.size ∧ ∀ k (h : k < l.length),
    w.cell? ⟨g, k * 5, none⟩ = some (.int .i64 l[k].lo) ∧ w.cell? ⟨g, k * 5 + 1, none⟩ = some (.int .i64 l[k].hi) ∧ w.cell? ⟨g, k * 5 + 2, none⟩ = some (.map none) ∧ w.cell? ⟨g, k * 5 + 3, none⟩ = some (.int .i64 l[k].p) ∧ w.cell? ⟨g, k * 5 + 4, none⟩ = some (.slice none 0 0)

theorem Sv.on {w w' : World} {v : Value} {l : List Sp} (h : Sv w v l) (hb : Below w.heap.size w w') : Sv w' v l := by
  rcases h with h | ⟨g, cap, rfl, hg, hc⟩
  · exact .inl h
  · refine .inr ⟨g, cap, rfl, by have := hb.size; omega, fun k hk => ?_⟩
    obtain ⟨a, b, c, d, e⟩ := hc k hk
    exact ⟨(hb.cell (p := ⟨g, k * 5, none⟩) hg).trans a, (hb.cell (p := ⟨g, k * 5 + 1, none⟩) hg).trans b, (hb.cell (p := ⟨g, k * 5 + 2, none⟩) hg).trans c, (hb.cell (p := ⟨g, k * 5 + 3, none⟩) hg).trans d, (hb.cell (p := ⟨g, k * 5 + 4, none⟩) hg).trans e⟩

theorem Sv.of_owns {w : World} {B : Nat} {v : Value} {n : Nat} {l : List Sp} (h : w.ownsRow B 47 5 v n (flat l)) : Sv w v l ∧ l.length = n := by
  have hl : l.length = n := by have := h.1; rw [flat_length] at this; omega
  refine ⟨?_, hl⟩
  rcases h.2 with ⟨rfl, h0⟩ | ⟨g, cap, cur, rfl, hb, hg, hnc, hm, hs, ht⟩
  · exact .inl ⟨rfl, List.eq_nil_of_length_eq_zero (by omega)⟩
  · refine .inr ⟨g, cap, by rw [hl], ?_, fun k hk => ?_⟩
    · rcases Nat.lt_or_ge g w.heap.size with h1 | h1
      · exact h1
      · rw [Array.getElem?_eq_none h1] at hg; cases hg
    · have hf := fun j hj => (h.cellAt (k * 5 + j) (by omega)).trans (flat_get l k j hk hj)
      exact ⟨hf 0 (by omega), hf 1 (by omega), hf 2 (by omega), hf 3 (by omega), hf 4 (by omega)⟩

set_option maxHeartbeats 1600000 in
/-- ZZspanAt. -/
theorem spanAt (g n cap k : Nat) (lo hi p : Int) (w : World) (hk : k < n) (hn : n ≤ 4097)
    (c0 : w.cell? ⟨g, k * 5, none⟩ = some (.int .i64 lo)) (c1 : w.cell? ⟨g, k * 5 + 1, none⟩ = some (.int .i64 hi)) (c2 : w.cell? ⟨g, k * 5 + 2, none⟩ = some (.map none)) (c3 : w.cell? ⟨g, k * 5 + 3, none⟩ = some (.int .i64 p)) (c4 : w.cell? ⟨g, k * 5 + 4, none⟩ = some (.slice none 0 0)) :
    Calls Try.prog 22 #[.slice (some ⟨g, 0, none⟩) n cap, .int .i64 (k : Int)] w fun e w' => e = .returned (.tuple #[.int .i64 lo, .int .i64 hi, .int .i64 p, .int .i64 0, .int .i64 0]) ∧ Below w.heap.size w w' := by
  have b0 : (0 : Int) ≤ (k : Int) := by omega
  have b1 : (k : Int) < (n : Int) := by omega
  go_enter Try.func22, Try.ntmps22
  go_wp2
  go_quiet (fail)
  go_wp2
  exact bodyPost_ret (v := .tuple #[.int .i64 lo, .int .i64 hi, .int .i64 p, .int .i64 0, .int .i64 0]) (by simp [results, Try.results22, go_sem]) rfl ⟨rfl, below_drewN (Below.refl _ _) _⟩

theorem openNil (g : Nat) (w : World) (c4 : w.cell? ⟨g, 4, none⟩ = some (.pointer none)) :
    Calls Try.prog 11 #[.pointer (some ⟨g, 0, none⟩)] w fun e w' => e = .returned (.bool true) ∧ w' = w := by
  go_enter Try.func11, Try.ntmps11
  go_wp2
  go_ret
  exact ⟨rfl, rfl⟩
end Go.Proofs.Qxb6615596a
