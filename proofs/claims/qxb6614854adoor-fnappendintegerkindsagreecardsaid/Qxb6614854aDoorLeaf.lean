/-
  THE WALKS OF THE SMALL FUNCTIONS (seat b6614854aD): zzBytes_.., mag64, cloneBytes, sameBytes, agree. Each by a contract.
-/
import Derived.Test.Qxb6614854aDoorRows
import Derived.WalkKit
import Derived.WalkLawsBesides
import Derived.WalkSpells
import Derived.OwnWalk
import Derived.Below
import Derived.Deep.QuietTactic
import Derived.BigQuiet
namespace Go.Proofs.Qxb6614854aDoor
open Go.RowKit

theorem infoByte : (Tryd.prog.info? 5).map (fun i => (i.zero, i.size, i.bytes)) = some (some (.int .u8 0), 1, 1) := by kernel_rfl

/-! ### the bound on the length, laid by program -/
theorem zzBytes3 (a : Option Addr) (n c : Nat) (x1 x2 x3 x4 x5 x6 x7 x8 : Value) (w : World) (hn : n ≤ 1048576) :
    Calls Tryd.prog 5 #[.slice a n c, x1, x2, x3, x4, x5, x6, x7, x8] w fun e w' => e = .returned (.bool true) ∧ w' = w := by
  have h1 : ¬ (1048576 : Int) < (n : Int) := by omega
  go_enter Tryd.func5, Tryd.ntmps5
  go_wp2
  go_ret
  exact ⟨rfl, rfl⟩

theorem mag64_neg (u : Nat) (w : World) (h0 : 1 ≤ u) (h1 : u ≤ 9223372036854775808) :
    Calls Tryd.prog 9 #[.int .i64 (-(u : Int))] w fun e w' => e = .returned (.int .u64 (u : Int)) ∧ w' = w := by
  have hwr : IntKind.u64.wrap (-IntKind.u64.wrap (-(u : Int))) = (u : Int) := by rw [IntKind.wrap_u64, IntKind.wrap_u64]; omega
  go_enter Tryd.func9, Tryd.ntmps9
  go_wp2
  go_ret
  exact ⟨rfl, rfl⟩

theorem mag64_pos (u : Nat) (w : World) (h1 : u ≤ 9223372036854775807) :
    Calls Tryd.prog 9 #[.int .i64 (u : Int)] w fun e w' => e = .returned (.int .u64 (u : Int)) ∧ w' = w := by
  go_enter Tryd.func9, Tryd.ntmps9
  go_wp2
  go_ret
  exact ⟨rfl, rfl⟩

end Go.Proofs.Qxb6614854aDoor
