/-
  zzHoldingBytesOver, zzBytes of FnFindHoldingInsert (seat b6615892a): they answer, and turn nothing.
-/
import Derived.Test.Qxb6615892aZz
namespace Go.Proofs.Qxb6615892a
open Go.RowKit
set_option linter.unusedVariables false
set_option linter.unusedSimpArgs false

set_option maxRecDepth 100000 in
set_option maxHeartbeats 3200000 in
theorem over_any (a b : Option Addr) (n m ca cb : Nat) (S I : List ByteArray) (x : Int) (w : World) (hn : n ≤ 9223372036854775807) (hm : m ≤ 9223372036854775807) (hS : S.length = n) (hI : I.length = m) (ha : Ws w a S) (hb : Ws w b I) :
    Calls Try.prog 11 #[.slice a n ca, .slice b m cb, .int .i64 x] w fun e w' => (∃ r, e = .returned (.bool r)) ∧ w' = w := by
  have HH := Lib.hid (And.intro ha hb)
  clear ha hb
  go_enter Try.func11, Try.ntmps11
  go_wp2
  go_loopw [7, 8] (fun t i wr => ∃ k : Nat, k ≤ n ∧ i = .int .i64 k ∧ w = wr ∧ ∃ x : Int, t = .int .i64 x) (fun _ i _ => n - (RowKit.intOf i).toNat)
  case atStart => exact ⟨0, Nat.zero_le _, rfl, rfl, _, rfl⟩
  case round =>
    obtain ⟨k, hk, rfl, rfl, y, rfl⟩ := hrel
    by_cases hlt : k < n
    · obtain ⟨g, o, rfl, hg, q⟩ := HH.out.1 k (by omega)
      obtain ⟨s, hs⟩ : ∃ s, s = S[k]'(by omega) := ⟨_, rfl⟩
      rw [← hs] at q
      clear hs
      have b0 : (0 : Int) ≤ (k : Int) := by omega
      have b1 : (k : Int) < (n : Int) := by omega
      go_wp2
      all_goals first | (go_ret; exact ⟨⟨_, rfl⟩, rfl⟩) | exact ⟨⟨k + 1, by omega, by go_num, trivial, _, rfl⟩, by simp [RowKit.intOf]; omega⟩
    · obtain rfl : k = n := by omega
      go_wp2
      go_loopw [7, 9] (fun t i wr => ∃ k : Nat, k ≤ m ∧ i = .int .i64 k ∧ w = wr ∧ ∃ x : Int, t = .int .i64 x) (fun _ i _ => m - (RowKit.intOf i).toNat)
      case atStart => exact ⟨0, Nat.zero_le _, rfl, rfl, _, rfl⟩
      case round =>
        obtain ⟨k, hk, rfl, rfl, y, rfl⟩ := hrel
        by_cases hlt : k < m
        · obtain ⟨g, o, rfl, hg, q⟩ := HH.out.2 k (by omega)
          obtain ⟨s, hs⟩ : ∃ s, s = I[k]'(by omega) := ⟨_, rfl⟩
          rw [← hs] at q
          clear hs
          have b0 : (0 : Int) ≤ (k : Int) := by omega
          have b1 : (k : Int) < (m : Int) := by omega
          go_wp2
          all_goals first | (go_ret; exact ⟨⟨_, rfl⟩, rfl⟩) | exact ⟨⟨k + 1, by omega, by go_num, trivial, _, rfl⟩, by simp [RowKit.intOf]; omega⟩
        · obtain rfl : k = m := by omega
          go_wp2
          all_goals (go_ret; exact ⟨⟨_, rfl⟩, rfl⟩)

set_option maxRecDepth 100000 in
set_option maxHeartbeats 3200000 in
theorem bytes_any (a b : Option Addr) (n m ca cb : Nat) (S I : List ByteArray) (sc ni : ByteArray) (p : Int) (w : World) (hn : n ≤ 9223372036854775807) (hm : m ≤ 9223372036854775807) (hS : S.length = n) (hI : I.length = m) (ha : Ws w a S) (hb : Ws w b I) :
    Calls Try.prog 10 #[.slice a n ca, .slice b m cb, .string sc, .int .i64 p, .string ni] w fun e w' => (∃ r, e = .returned (.bool r)) ∧ w' = w := by
  have HH := Lib.hid (And.intro ha hb)
  clear ha hb
  go_enter Try.func10, Try.ntmps10
  go_wp2
  any_goals (go_ret; exact ⟨⟨_, rfl⟩, rfl⟩)
  go_loopw [11, 12] (fun t i wr => ∃ k : Nat, k ≤ n ∧ i = .int .i64 k ∧ w = wr ∧ ∃ x : Int, t = .int .i64 x) (fun _ i _ => n - (RowKit.intOf i).toNat)
  case atStart => exact ⟨0, Nat.zero_le _, rfl, rfl, _, rfl⟩
  case round =>
    obtain ⟨k, hk, rfl, rfl, y, rfl⟩ := hrel
    by_cases hlt : k < n
    · obtain ⟨g, o, rfl, hg, q⟩ := HH.out.1 k (by omega)
      obtain ⟨s, hs⟩ : ∃ s, s = S[k]'(by omega) := ⟨_, rfl⟩
      rw [← hs] at q
      clear hs
      have b0 : (0 : Int) ≤ (k : Int) := by omega
      have b1 : (k : Int) < (n : Int) := by omega
      go_wp2
      all_goals first | (go_ret; exact ⟨⟨_, rfl⟩, rfl⟩) | exact ⟨⟨k + 1, by omega, by go_num, trivial, _, rfl⟩, by simp [RowKit.intOf]; omega⟩
    · obtain rfl : k = n := by omega
      go_wp2
      any_goals (go_ret; exact ⟨⟨_, rfl⟩, rfl⟩)
      go_loopw [11, 13] (fun t i wr => ∃ k : Nat, k ≤ m ∧ i = .int .i64 k ∧ w = wr ∧ ∃ x : Int, t = .int .i64 x) (fun _ i _ => m - (RowKit.intOf i).toNat)
      case atStart => exact ⟨0, Nat.zero_le _, rfl, rfl, _, rfl⟩
      case round =>
        obtain ⟨k, hk, rfl, rfl, y, rfl⟩ := hrel
        by_cases hlt : k < m
        · obtain ⟨g, o, rfl, hg, q⟩ := HH.out.2 k (by omega)
          obtain ⟨s, hs⟩ : ∃ s, s = I[k]'(by omega) := ⟨_, rfl⟩
          rw [← hs] at q
          clear hs
          have b0 : (0 : Int) ≤ (k : Int) := by omega
          have b1 : (k : Int) < (m : Int) := by omega
          go_wp2
          all_goals first | (go_ret; exact ⟨⟨_, rfl⟩, rfl⟩) | exact ⟨⟨k + 1, by omega, by go_num, trivial, _, rfl⟩, by simp [RowKit.intOf]; omega⟩
        · obtain rfl : k = m := by omega
          go_wp2
          all_goals (go_ret; exact ⟨⟨_, rfl⟩, rfl⟩)

end Go.Proofs.Qxb6615892a
