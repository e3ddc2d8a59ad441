/-
  A HOLDING IN MEMORY (seat b6615892a); the closure of findHolding; slices.IndexFunc.
-/
import Derived.Test.Qxb6615892aRows
import Derived.WalkKit
import Derived.WalkLawsBesides
import Derived.WalkSpells
import Derived.WalkSmall
import Derived.OwnWalk
import Derived.Below
import Derived.Lib.Hide
import Derived.Deep.QuietTactic
import Derived.BigQuiet
import Derived.Deep.MidRow
import Derived.RegionTactic
import Derived.BigRegion
namespace Go.Proofs.Qxb6615892a
open Go.RowKit
set_option linter.unusedVariables false

/-- The 22 cells of a Holding behind its security and its issuer: all zero. -/
def rest22 : List Value := [.string ⟨#[]⟩, .string ⟨#[]⟩, .string ⟨#[]⟩, .int .u64 0, .int .i64 0, .pointer none, .string ⟨#[]⟩, .string ⟨#[]⟩, .pointer none, .int .i32 0, .pointer none, .int .i32 0, .pointer none, .int .i32 0, .int .i64 0, .int .u64 0, .int .i64 0, .pointer none, .pointer none, .int .i32 0, .pointer none, .int .i32 0]
/-- A Holding's 24 cells. -/
def hold (s i : ByteArray) : List Value := .string s :: .string i :: rest22
theorem hold_length (s i : ByteArray) : (hold s i).length = 24 := rfl
theorem hold_one (s i : ByteArray) : ∀ v ∈ hold s i, v.oneCell' = true := by
  intro v hv
  simp only [hold, rest22, List.mem_cons, List.not_mem_nil, or_false] at hv
  rcases hv with rfl | rfl | rfl | rfl | rfl | rfl | rfl | rfl | rfl | rfl | rfl | rfl | rfl | rfl | rfl | rfl | rfl | rfl | rfl | rfl | rfl | rfl | rfl | rfl <;> rfl
theorem size42 : (Try.prog.info? 42).map (·.size) = some 24 := by kernel_rfl

set_option maxHeartbeats 1600000 in
/-- findHolding's closure: does the holding bear the captured security? -/
theorem clos (s i sec : ByteArray) (c : Nat) (w : World) (hc : w.cell? ⟨c, 0, none⟩ = some (.string sec)) :
    Calls Try.prog 16 #[.agg (hold s i).toArray, .pointer (some ⟨c, 0, none⟩)] w fun e w' => e = .returned (.bool (s.toList == sec.toList)) ∧ Below w.heap.size w w' := by
  have lc := World.block_lt_of_cell? _ _ hc
  have hc' : ∀ X, (w.alloc X).cell? ⟨c, 0, none⟩ = some (.string sec) := fun X => (((Below.refl w.heap.size w).alloc (Nat.le_refl _) X).cell (p := ⟨c, 0, none⟩) lc).trans hc
  unfold hold rest22
  go_enter Try.func16, Try.ntmps16
  go_wp2
  go_ret
  exact ⟨rfl, (Below.refl _ _).alloc (Nat.le_refl _) _⟩
end Go.Proofs.Qxb6615892a
