/-
  cut, finish, ZZfinish (seat b6615596a).
-/
import Derived.Test.Qxb6615596aAre
import Derived.Deep.RegionLaw
import Derived.BigRegion
namespace Go.Proofs.Qxb6615596a
open Go.RowKit
set_option linter.unusedVariables false

/-- No open span. -/
theorem cut_nil (g : Nat) (w : World) (h4 : w.cell? ⟨g, 4, none⟩ = some (.pointer none)) (f4 : w.frozen? ⟨g, 4, none⟩ = false) :
    Calls Try.prog 23 #[.pointer (some ⟨g, 0, none⟩)] w fun e w' => e = .returned (.tuple #[]) ∧ w' = w.setCell ⟨g, 4, none⟩ (.pointer none) := by
  go_enter Try.func23, Try.ntmps23
  go_wp2
  go_end0
  exact ⟨rfl, rfl⟩

/-- An open span without a pending event. -/
theorem cut_idle (g o : Nat) (p : Int) (w : World) (h4 : w.cell? ⟨g, 4, none⟩ = some (.pointer (some ⟨o, 0, none⟩))) (f4 : w.frozen? ⟨g, 4, none⟩ = false) (o3 : w.cell? ⟨o, 3, none⟩ = some (.int .i64 p)) (hp : ¬ 0 < p) :
    Calls Try.prog 23 #[.pointer (some ⟨g, 0, none⟩)] w fun e w' => e = .returned (.tuple #[]) ∧ w' = w.setCell ⟨g, 4, none⟩ (.pointer none) := by
  go_enter Try.func23, Try.ntmps23
  go_wp2
  go_end0
  exact ⟨rfl, rfl⟩

set_option maxRecDepth 100000 in
set_option maxHeartbeats 3200000 in
/-- An open span with a pending event. -/
theorem cut_pend (g o n base : Nat) (sv : Value) (lo hi p : Int) (xs : List Value) (w : World) (h3 : w.cell? ⟨g, 3, none⟩ = some sv) (f3 : w.frozen? ⟨g, 3, none⟩ = false)
    (h4 : w.cell? ⟨g, 4, none⟩ = some (.pointer (some ⟨o, 0, none⟩))) (f4 : w.frozen? ⟨g, 4, none⟩ = false)
    (o0 : w.cell? ⟨o, 0, none⟩ = some (.int .i64 lo)) (o1 : w.cell? ⟨o, 1, none⟩ = some (.int .i64 hi)) (o2 : w.cell? ⟨o, 2, none⟩ = some (.map none)) (o3 : w.cell? ⟨o, 3, none⟩ = some (.int .i64 p)) (o4 : w.cell? ⟨o, 4, none⟩ = some (.slice none 0 0))
    (hp : 0 < p) (hown : w.ownsRow base 47 5 sv n xs) (hbase : base ≤ w.heap.size) (ag : sv.ownBlock ≠ some g) (ao : sv.ownBlock ≠ some o) (hn : n ≤ 4096) :
    Calls Try.prog 23 #[.pointer (some ⟨g, 0, none⟩)] w fun e w' => e = .returned (.tuple #[]) ∧ ∃ gg cap w1, w' = (w1.setCell ⟨g, 3, none⟩ (.slice (some ⟨gg, 0, none⟩) (n + 1) cap)).setCell ⟨g, 4, none⟩ (.pointer none) ∧
      w1.ownsRow base 47 5 (.slice (some ⟨gg, 0, none⟩) (n + 1) cap) (n + 1) (xs ++ [.int .i64 lo, .int .i64 hi, .map none, .int .i64 p, .slice none 0 0]) ∧ (sv.ownBlock = some gg ∨ gg = w.heap.size + 1) ∧ (∀ B, B ≤ w.heap.size → (∀ k, sv.ownBlock = some k → B ≤ k) → Below B w w1) ∧
      w1.cell? ⟨g, 3, none⟩ = some sv ∧ w1.frozen? ⟨g, 3, none⟩ = false ∧ w1.cell? ⟨g, 4, none⟩ = some (.pointer (some ⟨o, 0, none⟩)) ∧ w1.frozen? ⟨g, 4, none⟩ = false := by
  obtain ⟨i0, hi0, hz0, hz1, hz2⟩ := info_parts info47
  have lg := World.block_lt_of_cell? w _ h3
  have lo' := World.block_lt_of_cell? w _ o0
  have fa3 : ∀ X, (w.alloc X).drew.frozen? ⟨g, 3, none⟩ = false := fun X => (((Below.refl w.heap.size w).alloc (Nat.le_refl _) X).drew.frozen (p := ⟨g, 3, none⟩) lg).trans f3
  have fa4 : ∀ X, (w.alloc X).drew.frozen? ⟨g, 4, none⟩ = false := fun X => (((Below.refl w.heap.size w).alloc (Nat.le_refl _) X).drew.frozen (p := ⟨g, 4, none⟩) lg).trans f4
  have ca3 : ∀ X, (w.alloc X).drew.cell? ⟨g, 3, none⟩ = some sv := fun X => (((Below.refl w.heap.size w).alloc (Nat.le_refl _) X).drew.cell (p := ⟨g, 3, none⟩) lg).trans h3
  have ca4 : ∀ X, (w.alloc X).drew.cell? ⟨g, 4, none⟩ = some (.pointer (some ⟨o, 0, none⟩)) := fun X => (((Below.refl w.heap.size w).alloc (Nat.le_refl _) X).drew.cell (p := ⟨g, 4, none⟩) lg).trans h4
  have HF := Lib.hid (And.intro fa3 (And.intro fa4 (And.intro ca3 ca4)))
  clear fa3 fa4 ca3 ca4
  go_enter Try.func23, Try.ntmps23
  go_wp2
  go_region_law
    ((refine step_append_lies _ (by rfl) _ _ _ (by rfl) base 47 i0 _ 5 56 Try.underlying27 hi0 hz0 hz1 hz2 rfl (by omega) sv n xs (by rfl) ((hown.alloc _).drew)
        ⟨w.heap.size, 0, none⟩ 1 1 [.int .i64 lo, .int .i64 hi, .map none, .int .i64 p, .slice none 0 0] (by rfl) (by rfl) (World.news_of_block (cs := #[.int .i64 lo, .int .i64 hi, .map none, .int .i64 p, .slice none 0 0]) (t := 47) (fr := (0, 0)) (heap_alloc_new w _)) (by simp [Value.oneCell'])
        (by omega) (by unfold maxLen; omega) (by omega) (by simp; omega) (w.heap.size + 1) (by simp) ?_; intro gg cap w1 hown1 hgrow hat hlt; have k3 := (hgrow.cell_far ⟨g, 3, none⟩ (by simp; omega) (Ne.symm ag)).trans (HF.out.2.2.1 _); have e3 := (hgrow.frozen_far ⟨g, 3, none⟩ (by simp; omega) (Ne.symm ag)).trans (HF.out.1 _); have k4 := (hgrow.cell_far ⟨g, 4, none⟩ (by simp; omega) (Ne.symm ag)).trans (HF.out.2.2.2 _); have e4 := (hgrow.frozen_far ⟨g, 4, none⟩ (by simp; omega) (Ne.symm ag)).trans (HF.out.2.1 _)))
  all_goals
    go_wp2
    go_end0
    refine ⟨rfl, gg, cap, w1, rfl, hown1, hat, fun B hB hk => ?_, k3, e3, k4, e4⟩
    exact (((Below.refl B w).alloc hB _).drew).grown hgrow (by simp; omega) hk
end Go.Proofs.Qxb6615596a
