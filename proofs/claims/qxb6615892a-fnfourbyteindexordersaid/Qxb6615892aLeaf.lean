/-
  zzBytes, zzGBValid, fourByteIndex (seat b6615892a).
-/
import Derived.Test.Qxb6615892aRows
import Derived.WalkKit
import Derived.WalkLawsBesides
import Derived.WalkSpells
import Derived.WalkSmall
import Derived.OwnWalk
import Derived.Below
import Derived.Lib.Hide
import Derived.Deep.QuietTactic
import Derived.BigQuiet
import Derived.RegionTactic
import Derived.BigRegion
import Derived.Laws.CopyOwn
namespace Go.Proofs.Qxb6615892a
open Go.RowKit
set_option linter.unusedVariables false

theorem infoByte : (Try.prog.info? 5).map (fun i => (i.zero, i.size, i.bytes)) = some (some (.int .u8 0), 1, 1) := by kernel_rfl

/-- The first four bytes are a code. -/
def Code4 (c0 c1 c2 c3 : Int) : Prop := (129 ≤ c0 ∧ c0 ≤ 254) ∧ (48 ≤ c1 ∧ c1 ≤ 57) ∧ (129 ≤ c2 ∧ c2 ≤ 254) ∧ (48 ≤ c3 ∧ c3 ≤ 57)
/-- The place of a code. -/
def idx (c0 c1 c2 c3 : Int) : Int := (((c0 - 129) * 10 + (c1 - 48)) * 126 + (c2 - 129)) * 10 + (c3 - 48)

/-- Four bytes at an address. -/
def At4 (w : World) (b off : Nat) (c0 c1 c2 c3 : Int) : Prop :=
  w.cell? ⟨b, off, none⟩ = some (.int .u8 c0) ∧ w.cell? ⟨b, off + 1, none⟩ = some (.int .u8 c1) ∧ w.cell? ⟨b, off + 2, none⟩ = some (.int .u8 c2) ∧ w.cell? ⟨b, off + 3, none⟩ = some (.int .u8 c3)

theorem valid_yes (b off n c : Nat) (c0 c1 c2 c3 : Int) (w : World) (hn : 4 ≤ n) (hm : n ≤ 9223372036854775807) (ha : At4 w b off c0 c1 c2 c3) (h : Code4 c0 c1 c2 c3) :
    Calls Try.prog 7 #[.slice (some ⟨b, off, none⟩) n c] w fun e w' => e = .returned (.bool true) ∧ w' = w := by
  obtain ⟨q0, q1, q2, q3⟩ := ha
  obtain ⟨⟨a1, a2⟩, ⟨a3, a4⟩, ⟨a5, a6⟩, ⟨a7, a8⟩⟩ := h
  go_enter Try.func7, Try.ntmps7
  go_wp2
  go_ret
  exact ⟨rfl, rfl⟩

theorem valid_no (b off n c : Nat) (c0 c1 c2 c3 : Int) (w : World) (hn : 4 ≤ n) (hm : n ≤ 9223372036854775807) (ha : At4 w b off c0 c1 c2 c3) (h : ¬ Code4 c0 c1 c2 c3) :
    Calls Try.prog 7 #[.slice (some ⟨b, off, none⟩) n c] w fun e w' => e = .returned (.bool false) ∧ w' = w := by
  obtain ⟨q0, q1, q2, q3⟩ := ha
  by_cases a1 : 129 ≤ c0
  · by_cases a2 : c0 ≤ 254
    · by_cases a3 : 48 ≤ c1
      · by_cases a4 : c1 ≤ 57
        · by_cases a5 : 129 ≤ c2
          · by_cases a6 : c2 ≤ 254
            · by_cases a7 : 48 ≤ c3
              · by_cases a8 : c3 ≤ 57
                · exact absurd ⟨⟨a1, a2⟩, ⟨a3, a4⟩, ⟨a5, a6⟩, ⟨a7, a8⟩⟩ h
                · clear h
                  go_enter Try.func7, Try.ntmps7
                  go_wp2
                  go_ret
                  exact ⟨rfl, rfl⟩
              · clear h
                go_enter Try.func7, Try.ntmps7
                go_wp2
                go_ret
                exact ⟨rfl, rfl⟩
            · clear h
              go_enter Try.func7, Try.ntmps7
              go_wp2
              go_ret
              exact ⟨rfl, rfl⟩
          · clear h
            go_enter Try.func7, Try.ntmps7
            go_wp2
            go_ret
            exact ⟨rfl, rfl⟩
        · clear h
          go_enter Try.func7, Try.ntmps7
          go_wp2
          go_ret
          exact ⟨rfl, rfl⟩
      · clear h
        go_enter Try.func7, Try.ntmps7
        go_wp2
        go_ret
        exact ⟨rfl, rfl⟩
    · clear h
      go_enter Try.func7, Try.ntmps7
      go_wp2
      go_ret
      exact ⟨rfl, rfl⟩
  · clear h
    go_enter Try.func7, Try.ntmps7
    go_wp2
    go_ret
    exact ⟨rfl, rfl⟩

theorem index_any (b off n c : Nat) (c0 c1 c2 c3 : Int) (w : World) (hn : 4 ≤ n) (hm : n ≤ 9223372036854775807) (ha : At4 w b off c0 c1 c2 c3) (h : Code4 c0 c1 c2 c3) :
    Calls Try.prog 13 #[.slice (some ⟨b, off, none⟩) n c] w fun e w' => e = .returned (.int .i64 (idx c0 c1 c2 c3)) ∧ ∃ q, w' = w.drewN q := by
  obtain ⟨q0, q1, q2, q3⟩ := ha
  obtain ⟨⟨a1, a2⟩, ⟨a3, a4⟩, ⟨a5, a6⟩, ⟨a7, a8⟩⟩ := h
  have b0 : (0 : Int) < (n : Int) := by omega
  have b1 : (1 : Int) < (n : Int) := by omega
  have b2 : (2 : Int) < (n : Int) := by omega
  have b3 : (3 : Int) < (n : Int) := by omega
  go_enter Try.func13, Try.ntmps13
  go_wp2
  go_quiet (fail)
  go_wp2
  go_ret
  exact ⟨rfl, _, rfl⟩

theorem zzindex (b off n c : Nat) (c0 c1 c2 c3 : Int) (w : World) (hn : 4 ≤ n) (hm : n ≤ 9223372036854775807) (ha : At4 w b off c0 c1 c2 c3) (h : Code4 c0 c1 c2 c3) :
    Calls Try.prog 8 #[.slice (some ⟨b, off, none⟩) n c] w fun e w' => e = .returned (.int .i64 (idx c0 c1 c2 c3)) ∧ ∃ q, w' = w.drewN q := by
  have H := Lib.hid (index_any b off n c c0 c1 c2 c3 w hn hm ha h)
  clear ha h
  go_enter Try.func8, Try.ntmps8
  go_wp2_with (go_at_call 13; refine H.out.mono ?_; rintro e w' ⟨rfl, hq⟩)
  go_ret
  exact ⟨rfl, hq⟩

theorem zz_any6 (a : Option Addr) (n c : Nat) (w : World) (m1 : n ≤ 9223372036854775807) : Calls Try.prog 6 #[.slice a n c] w fun e w' => (∃ r, e = .returned (.bool r)) ∧ w' = w := by
  go_enter Try.func6, Try.ntmps6
  go_wp2
  all_goals
    go_ret
    exact ⟨⟨_, rfl⟩, rfl⟩
theorem zz_small6 (a : Option Addr) (n c : Nat) (w : World) (m1 : n ≤ 1048576) : Calls Try.prog 6 #[.slice a n c] w fun e w' => e = .returned (.bool true) ∧ w' = w := by
  go_enter Try.func6, Try.ntmps6
  go_wp2
  go_ret
  exact ⟨rfl, rfl⟩
end Go.Proofs.Qxb6615892a
