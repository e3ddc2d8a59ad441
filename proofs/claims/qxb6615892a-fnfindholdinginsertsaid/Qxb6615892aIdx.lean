/-
  slices.IndexFunc over Holdings (seat b6615892a).
-/
import Derived.Test.Qxb6615892aHold
namespace Go.Proofs.Qxb6615892a
open Go.RowKit
set_option linter.unusedVariables false

/-- The place of the first pair that bears the security, or -1. -/
def Fst (L : List (ByteArray × ByteArray)) (sec : ByteArray) (r : Int) : Prop :=
  (∃ k : Nat, ∃ h : k < L.length, r = k ∧ (L[k].1.toList == sec.toList) = true ∧ ∀ j (h : j < L.length), j < k → (L[j].1.toList == sec.toList) = false) ∨
  (r = -1 ∧ ∀ j (h : j < L.length), (L[j].1.toList == sec.toList) = false)

set_option maxHeartbeats 1600000 in
theorem idxf (g n cap c : Nat) (L : List (ByteArray × ByteArray)) (sec : ByteArray) (w : World) (hn : n ≤ 65537) (hL : L.length = n) (hg : g < w.heap.size)
    (hr : ∀ k (h : k < L.length), w.rangeAt g (k * 24) (hold L[k].1 L[k].2)) (hc : w.cell? ⟨c, 0, none⟩ = some (.string sec)) :
    Calls Try.prog 15 #[.slice (some ⟨g, 0, none⟩) n cap, .func (.func 16) #[] #[.pointer (some ⟨c, 0, none⟩)]] w fun e w' => (∃ r, e = .returned (.int .i64 r) ∧ Fst L sec r) ∧ Below w.heap.size w w' := by
  have lc := World.block_lt_of_cell? _ _ hc
  have HH := Lib.hid (And.intro hr hc)
  clear hr hc
  go_enter Try.func15, Try.ntmps15
  go_wp2
  go_loopw [8] (fun i wr => ∃ k : Nat, k ≤ n ∧ i = .int .i64 k ∧ Hid (Below w.heap.size w wr) ∧ Hid (∀ j (h : j < L.length), j < k → (L[j].1.toList == sec.toList) = false)) (fun i _ => n - (RowKit.intOf i).toNat)
  case atStart => exact ⟨0, Nat.zero_le _, rfl, Lib.hid (Below.refl _ _), Lib.hid (fun j _ hj => absurd hj (Nat.not_lt_zero _))⟩
  case round =>
    obtain ⟨k, hk, rfl, hb, A⟩ := hrel
    by_cases hlt : k < n
    · have b1 : (k : Int) < (n : Int) := by omega
      have hkL : k < L.length := by omega
      obtain ⟨s, i, hsi⟩ : ∃ s i, L[k] = (s, i) := ⟨_, _, rfl⟩
      have R : wr.rangeAt g (k * 24) (hold s i) := fun j v hv => (hb.out.cell (p := ⟨g, k * 24 + j, none⟩) hg).trans (by have := HH.out.1 k hkL j v; rw [hsi] at this; exact this hv)
      have C := (hb.out.cell (p := ⟨c, 0, none⟩) lc).trans HH.out.2
      have HR := Lib.hid (And.intro R C)
      clear R C
      cases hq : (s.toList == sec.toList) with
      | true =>
        go_wp2_with first | (refine wpList_load_mid rfl 42 (.tmp 14) rfl g (k * 24) rfl (hold s i) _ HR.out.1 Try.underlying42 rfl size42 ?_) | (go_at_call 16; refine (clos s i sec c _ HR.out.2).mono ?_; rintro e w' ⟨rfl, hb'⟩)
        go_ret
        exact ⟨⟨_, rfl, .inl ⟨k, hkL, rfl, by rw [hsi]; exact hq, A.out⟩⟩, hb.out.trans (hb'.mono hb.out.size)⟩
      | false =>
        go_wp2_with first | (refine wpList_load_mid rfl 42 (.tmp 14) rfl g (k * 24) rfl (hold s i) _ HR.out.1 Try.underlying42 rfl size42 ?_) | (go_at_call 16; refine (clos s i sec c _ HR.out.2).mono ?_; rintro e w' ⟨rfl, hb'⟩)
        go_roundw
        case rel =>
          refine ⟨k + 1, by omega, by go_num, Lib.hid (hb.out.trans (hb'.mono hb.out.size)), Lib.hid fun j h hj => ?_⟩
          by_cases e : j = k
          · subst e; rw [hsi]; exact hq
          · exact A.out j h (by omega)
        case measure => simp [RowKit.intOf]; omega
    · obtain rfl : k = n := by omega
      go_wp2
      go_ret
      exact ⟨⟨_, rfl, .inr ⟨rfl, fun j h => A.out j h (by omega)⟩⟩, hb.out⟩
end Go.Proofs.Qxb6615892a
