/-
  FnFindHoldingInsert (seat b6615892a): the early answers.
-/
import Derived.Test.Qxb6615892aIns
namespace Go.Proofs.Qxb6615892a
open Go.RowKit
set_option linter.unusedVariables false
set_option linter.unusedSimpArgs false

set_option maxRecDepth 100000 in
set_option maxHeartbeats 6400000 in
theorem early (a b : Option Addr) (n m ca cb : Nat) (S I : List ByteArray) (sec ni : ByteArray) (p : Int) (w : World) (hn : n ≤ 9223372036854775807) (hm : m ≤ 9223372036854775807) (hS : S.length = n) (hI : I.length = m) (ha : Ws w a S) (hb : Ws w b I)
    (hx : ¬ (n ≤ 65536 ∧ m ≤ 65536 ∧ sec.size ≤ 65536 ∧ ni.size ≤ 65536 ∧ m = n ∧ 0 ≤ p ∧ p ≤ (n : Int))) :
    Calls Try.prog 5 #[.slice a n ca, .slice b m cb, .string sec, .int .i64 p, .string ni] w fun e w' => e = .returned (.bool true) ∧ w' = w := by
  have HH := Lib.hid (And.intro ha (And.intro hb hx))
  clear ha hb hx
  go_enter Try.func5, Try.ntmps5
  go_wp2_with fail
  refine (bytes_any a b n m ca cb S I sec ni p w hn hm hS hI HH.out.1 HH.out.2.1).mono ?_
  rintro e w0 ⟨⟨r, rfl⟩, rfl⟩
  cases r with
  | false =>
    go_wp2
    go_ret
    exact ⟨rfl, rfl⟩
  | true =>
  by_cases h1 : n ≤ 65536
  case neg =>
    have k1 : (65536 : Int) < (n : Int) := by omega
    go_wp2_with fail
    go_ret
    exact ⟨rfl, rfl⟩
  by_cases h2 : m ≤ 65536
  case neg =>
    have k1 : ¬ (65536 : Int) < (n : Int) := by omega
    have k2 : (65536 : Int) < (m : Int) := by omega
    go_wp2_with fail
    go_ret
    exact ⟨rfl, rfl⟩
  by_cases h3 : sec.size ≤ 65536
  case neg =>
    have k1 : ¬ (65536 : Int) < (n : Int) := by omega
    have k2 : ¬ (65536 : Int) < (m : Int) := by omega
    have k3 : (65536 : Int) < (sec.size : Int) := by omega
    go_wp2_with fail
    go_ret
    exact ⟨rfl, rfl⟩
  have k1 : ¬ (65536 : Int) < (n : Int) := by omega
  have k2 : ¬ (65536 : Int) < (m : Int) := by omega
  have k3 : ¬ (65536 : Int) < (sec.size : Int) := by omega
  by_cases h4 : ni.size ≤ 65536
  case neg =>
    have k4 : (65536 : Int) < (ni.size : Int) := by omega
    go_wp2_with fail
    go_ret
    exact ⟨rfl, rfl⟩
  have k4 : ¬ (65536 : Int) < (ni.size : Int) := by omega
  go_wp2_with fail
  refine (over_any a b n m ca cb S I _ w0 hn hm hS hI HH.out.1 HH.out.2.1).mono ?_
  rintro e w1 ⟨⟨r, rfl⟩, rfl⟩
  cases r with
  | true =>
    go_wp2
    go_ret
    exact ⟨rfl, rfl⟩
  | false =>
  by_cases h5 : m = n
  case neg =>
    have k5 : ¬ (m : Int) = (n : Int) := by omega
    go_wp2_with fail
    go_ret
    exact ⟨rfl, rfl⟩
  subst h5
  by_cases h6 : 0 ≤ p
  case neg =>
    have k6 : p < 0 := by omega
    go_wp2_with fail
    go_ret
    exact ⟨rfl, rfl⟩
  by_cases h7 : p ≤ (m : Int)
  case neg =>
    have k6 : ¬ p < 0 := by omega
    have k7 : (m : Int) < p := by omega
    go_wp2_with fail
    go_ret
    exact ⟨rfl, rfl⟩
  exact absurd ⟨h1, h2, h3, h4, rfl, h6, h7⟩ HH.out.2.2
end Go.Proofs.Qxb6615892a
