/-
  readDecimal (seat b6614854aD): at a numeral it reads the number back.
-/
import Derived.Test.Qxb6614854aDoorLeaf2
import Derived.Test.Qxb6614854aDoorPlain
namespace Go.Proofs.Qxb6614854aDoor
open Go.RowKit Go.Lib

theorem read_zero (g cap : Nat) (w : World) (hc : w.cell? ⟨g, 0, none⟩ = some (.int .u8 48)) :
    Calls Tryd.prog 19 #[.slice (some ⟨g, 0, none⟩) 1 cap] w fun e w' => e = .returned (.tuple #[.bool false, .int .u64 0, .bool true]) ∧ w' = w := by
  go_enter Tryd.func19, Tryd.ntmps19
  go_wp2
  go_ret3
  exact ⟨rfl, rfl⟩

set_option maxHeartbeats 800000 in
theorem read_pos (g cap u nd : Nat) (w : World) (hu : u ≤ 18446744073709551615) (hnd : 1 ≤ nd) (hnd20 : nd ≤ 20) (h0 : pre u nd 0 = 0) (hf : 1 ≤ dgt u nd 0)
    (hc : ∀ k, k < nd → w.cell? ⟨g, k, none⟩ = some (.int .u8 (48 + (dgt u nd k : Int)))) :
    Calls Tryd.prog 19 #[.slice (some ⟨g, 0, none⟩) nd cap] w fun e w' => e = .returned (.tuple #[.bool false, .int .u64 (u : Int), .bool true]) ∧ w' = w := by
  have hc0 := hc 0 (by omega)
  have hd0 := dgt_lt u nd 0
  go_enter Tryd.func19, Tryd.ntmps19
  go_wp2
  go_loop [6, 7] (fun i m => ∃ k : Nat, k ≤ nd ∧ i = .int .i64 k ∧ m = .int .u64 (pre u nd k)) (fun i _ => nd - (intOf i).toNat)
  case atStart => exact ⟨0, Nat.zero_le _, rfl, by rw [h0]; rfl⟩
  case round =>
    obtain ⟨k, hk, rfl, rfl⟩ := hrel
    by_cases hlt : k < nd
    · have hck := hc k hlt
      have hdk := dgt_lt u nd k
      have hps := pre_succ u nd k hlt
      have hpl := pre_le u nd (k + 1)
      have HP := Lib.hid hps
      have hb : pre u nd k * 10 + dgt u nd k ≤ 18446744073709551615 := by omega
      clear hps hpl hc0 hc hf hd0
      go_wp2
      go_round
      case rel => exact ⟨_, _, _, _, _, ⟨k + 1, by omega, by go_num, by rw [HP.out]; go_num⟩, rfl, rfl, rfl, rfl, rfl⟩
      case measure => simp [intOf]; omega
    · obtain rfl : k = nd := by omega
      go_wp2
      go_ret3
      exact ⟨by rw [pre_full]; rfl, rfl⟩

set_option maxHeartbeats 800000 in
theorem read_neg (g cap u nd : Nat) (w : World) (hu : u ≤ 18446744073709551615) (hnd : 1 ≤ nd) (hnd20 : nd ≤ 20) (h0 : pre u nd 0 = 0) (hf : 1 ≤ dgt u nd 0)
    (hm : w.cell? ⟨g, 0, none⟩ = some (.int .u8 45)) (hc : ∀ k, k < nd → w.cell? ⟨g, k + 1, none⟩ = some (.int .u8 (48 + (dgt u nd k : Int)))) :
    Calls Tryd.prog 19 #[.slice (some ⟨g, 0, none⟩) (nd + 1) cap] w fun e w' => e = .returned (.tuple #[.bool true, .int .u64 (u : Int), .bool true]) ∧ w' = w := by
  have hc0 : w.cell? ⟨g, 1, none⟩ = some (.int .u8 (48 + (dgt u nd 0 : Int))) := hc 0 (by omega)
  have hd0 := dgt_lt u nd 0
  go_enter Tryd.func19, Tryd.ntmps19
  go_wp2
  go_loop [6, 7] (fun i m => ∃ k : Nat, k ≤ nd ∧ i = .int .i64 (k + 1 : Nat) ∧ m = .int .u64 (pre u nd k)) (fun i _ => nd + 1 - (intOf i).toNat)
  case atStart => exact ⟨0, Nat.zero_le _, rfl, by rw [h0]; rfl⟩
  case round =>
    obtain ⟨k, hk, rfl, rfl⟩ := hrel
    by_cases hlt : k < nd
    · have hck := hc k hlt
      have hdk := dgt_lt u nd k
      have hps := pre_succ u nd k hlt
      have hpl := pre_le u nd (k + 1)
      have HP := Lib.hid hps
      have hb : pre u nd k * 10 + dgt u nd k ≤ 18446744073709551615 := by omega
      clear hps hpl hc0 hc hf hd0
      go_wp2
      go_round
      case rel => exact ⟨_, _, _, _, _, ⟨k + 1, by omega, by go_num, by rw [HP.out]; go_num⟩, rfl, rfl, rfl, rfl, rfl⟩
      case measure => simp [intOf]; omega
    · obtain rfl : k = nd := by omega
      go_wp2
      go_ret3
      exact ⟨by rw [pre_full]; rfl, rfl⟩
end Go.Proofs.Qxb6614854aDoor
