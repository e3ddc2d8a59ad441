/-
  sameBytes, agree (seat b6614854aD).
-/
import Derived.Test.Qxb6614854aDoorLeaf2
import Derived.WalkSmall
namespace Go.Proofs.Qxb6614854aDoor
open Go.RowKit

set_option maxHeartbeats 800000 in
theorem same_core (a1 a2 : Option Addr) (n c1 c2 : Nat) (l : List Int) (w : World) (hn : n ≤ 4194325) (hl : l.length = n)
    (h1 : ∀ k (h : k < l.length), ∃ g, a1 = some ⟨g, 0, none⟩ ∧ g < w.heap.size ∧ w.cell? ⟨g, k, none⟩ = some (.int .u8 l[k]))
    (h2 : ∀ k (h : k < l.length), ∃ g, a2 = some ⟨g, 0, none⟩ ∧ g < w.heap.size ∧ w.cell? ⟨g, k, none⟩ = some (.int .u8 l[k])) :
    Calls Tryd.prog 21 #[.slice a1 n c1, .slice a2 n c2] w fun e w' => e = .returned (.bool true) ∧ Below w.heap.size w w' := by
  go_enter Tryd.func21, Tryd.ntmps21
  go_wp2
  go_loopw [5] (fun i wr => ∃ k : Nat, k ≤ n ∧ i = .int .i64 k ∧ Below w.heap.size w wr) (fun i _ => n - (intOf i).toNat)
  case atStart => exact ⟨0, Nat.zero_le _, rfl, Below.refl _ _⟩
  case round =>
    obtain ⟨k, hk, rfl, hb⟩ := hrel
    by_cases hlt : k < n
    · obtain ⟨g1, rfl, hg1, hcw1⟩ := h1 k (by omega)
      obtain ⟨g2, rfl, hg2, hcw2⟩ := h2 k (by omega)
      have d1 : wr.cell? ⟨g1, k, none⟩ = some (.int .u8 (l[k]'(by omega))) := (hb.cell (p := ⟨g1, k, none⟩) hg1).trans hcw1
      have d2 : wr.cell? ⟨g2, k, none⟩ = some (.int .u8 (l[k]'(by omega))) := (hb.cell (p := ⟨g2, k, none⟩) hg2).trans hcw2
      have b1 : (k : Int) < (n : Int) := by omega
      have b0 : (0 : Int) ≤ (k : Int) := by omega
      clear h1 h2 hcw1 hcw2
      go_wp2
      go_quiet (fail)
      go_wp2
      go_roundw
      case rel => exact ⟨k + 1, by omega, by go_num, below_drewN hb _⟩
      case measure => simp [intOf]; omega
    · clear h1 h2
      go_wp2
      go_ret
      exact ⟨rfl, hb⟩

theorem same_any (v1 v2 : Value) (l : List Int) (w : World) (hn : l.length ≤ 4194325) (h1 : Vw w v1 l) (h2 : Vw w v2 l) :
    Calls Tryd.prog 21 #[v1, v2] w fun e w' => e = .returned (.bool true) ∧ Below w.heap.size w w' := by
  rcases h1 with ⟨rfl, rfl⟩ | ⟨g1, c1, rfl, hcap1, hg1, hc1⟩
  · rcases h2 with ⟨rfl, _⟩ | ⟨g2, c2, rfl, hcap2, hg2, hc2⟩
    · exact same_core none none 0 0 0 [] w (by omega) rfl (fun k h => by simp at h) (fun k h => by simp at h)
    · exact same_core none _ 0 0 c2 [] w (by omega) rfl (fun k h => by simp at h) (fun k h => by simp at h)
  · rcases h2 with ⟨rfl, rfl⟩ | ⟨g2, c2, rfl, hcap2, hg2, hc2⟩
    · exact same_core _ none 0 c1 0 [] w (by omega) rfl (fun k h => by simp at h) (fun k h => by simp at h)
    · exact same_core _ _ l.length c1 c2 l w hn rfl (fun k h => ⟨g1, rfl, hg1, hc1 k h⟩) (fun k h => ⟨g2, rfl, hg2, hc2 k h⟩)

theorem agree_any (v1 v2 : Value) (l : List Int) (w : World) (hn : l.length ≤ 4194325) (h1 : Vw w v1 l) (h2 : Vw w v2 l) :
    Calls Tryd.prog 18 #[v1, .bool true, v2, .bool true] w fun e w' => e = .returned (.bool true) ∧ Below w.heap.size w w' := by
  have HS := Lib.hid (same_any v1 v2 l w hn h1 h2)
  clear h1 h2
  go_enter Tryd.func18, Tryd.ntmps18
  go_wp2_with (go_at_call 21; refine HS.out.mono ?_; rintro e w2 ⟨rfl, hb⟩)
  go_ret
  exact ⟨rfl, hb⟩
end Go.Proofs.Qxb6614854aDoor
