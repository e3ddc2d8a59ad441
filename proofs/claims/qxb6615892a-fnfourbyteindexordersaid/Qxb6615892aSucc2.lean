/-
  THE LAW 'FnFourByteIndexSuccessor' (seat b6615892a): the early answers, and all together.
-/
import Derived.Test.Qxb6615892aSucc
namespace Go.Proofs.Qxb6615892a
open Go.RowKit
set_option linter.unusedVariables false

theorem succ_long (a : Option Addr) (n cap : Nat) (w : World) (m : n ≤ 9223372036854775807) (h : 1048576 < n) :
    Calls Try.prog 3 #[.slice a n cap] w fun e w' => e = .returned (.bool true) ∧ w' = w := by
  go_enter Try.func3, Try.ntmps3
  go_wp2_with fail
  refine (zz_any6 a n cap w m).mono ?_
  rintro e w' ⟨⟨r, rfl⟩, rfl⟩
  cases r
  all_goals
    go_wp2
    go_ret
    exact ⟨rfl, rfl⟩
theorem succ_short (a : Option Addr) (n cap : Nat) (w : World) (h : n < 4) :
    Calls Try.prog 3 #[.slice a n cap] w fun e w' => e = .returned (.bool true) ∧ w' = w := by
  go_enter Try.func3, Try.ntmps3
  go_wp2_with fail
  refine (zz_small6 a n cap w (by omega)).mono ?_
  rintro e w' ⟨rfl, rfl⟩
  go_wp2
  go_ret
  exact ⟨rfl, rfl⟩
theorem succ_bad (b off n cap : Nat) (c0 c1 c2 c3 : Int) (w : World) (h4 : 4 ≤ n) (hn : n ≤ 1048576) (ha : At4 w b off c0 c1 c2 c3) (h : ¬ Code4 c0 c1 c2 c3) :
    Calls Try.prog 3 #[.slice (some ⟨b, off, none⟩) n cap] w fun e w' => e = .returned (.bool true) ∧ w' = w := by
  have HV := Lib.hid (valid_no b off n cap c0 c1 c2 c3 w h4 (by omega) ha h)
  clear ha h
  go_enter Try.func3, Try.ntmps3
  go_wp2_with fail
  refine (zz_small6 _ n cap w hn).mono ?_
  rintro e w' ⟨rfl, rfl⟩
  go_wp2_with fail
  refine HV.out.mono ?_
  rintro e w' ⟨rfl, rfl⟩
  go_wp2
  go_ret
  exact ⟨rfl, rfl⟩

/-- Four bytes of a row that came in. -/
theorem four_of (x : Addr) (zs : List Int) (w : World) (h4 : 4 ≤ zs.length) (hc : ∀ i, i < zs.length → w.cell? (x.add i) = some (.int .u8 (zs.getD i 0))) :
    ∃ b off, x = ⟨b, off, none⟩ ∧ At4 w b off (zs.getD 0 0) (zs.getD 1 0) (zs.getD 2 0) (zs.getD 3 0) := by
  obtain ⟨b, off, sp⟩ := x
  have hs0 : sp = none := by simpa [Addr.add] using World.cell?_spot (hc 0 (by omega))
  subst hs0
  have k0 := hc 0 (by omega); have k1 := hc 1 (by omega); have k2 := hc 2 (by omega); have k3 := hc 3 (by omega)
  rw [Addr.add_lit] at k0 k1 k2 k3
  exact ⟨b, off, rfl, k0, k1, k2, k3⟩

theorem getD_take (zs : List Int) (n i : Nat) (hi : i < n) (hn : n ≤ zs.length) : (zs.take n)[i]? = some (zs.getD i 0) := by
  rw [List.getElem?_take, if_pos hi, List.getElem?_eq_getElem (by omega), List.getD, List.getElem?_eq_getElem (by omega)]
  rfl

theorem succ_all (x : Addr) (n cap : Nat) (zs : List Int) (w : World) (m : n ≤ 9223372036854775807) (hz : n ≤ zs.length) (hc : ∀ i, i < zs.length → w.cell? (x.add i) = some (.int .u8 (zs.getD i 0))) :
    Calls Try.prog 3 #[.slice (some x) n cap] w fun e w' => e = .returned (.bool true) ∧ Below w.heap.size w w' := by
  by_cases hl : 1048576 < n
  · refine (succ_long _ n cap w m hl).mono ?_
    rintro e w' ⟨rfl, rfl⟩
    exact ⟨rfl, Below.refl _ _⟩
  by_cases h4 : n < 4
  · refine (succ_short _ n cap w h4).mono ?_
    rintro e w' ⟨rfl, rfl⟩
    exact ⟨rfl, Below.refl _ _⟩
  by_cases hcd : Code4 (zs.getD 0 0) (zs.getD 1 0) (zs.getD 2 0) (zs.getD 3 0)
  · have hlt : (zs.take n).length = n := by rw [List.length_take]; omega
    have hc' : ∀ j (h : j < (zs.take n).length), w.cell? (x.add j) = some (.int .u8 (zs.take n)[j]) := by
      intro j h
      rw [hc j (by omega)]
      have := getD_take zs n j (by omega) hz
      rw [List.getElem?_eq_getElem h] at this
      rw [Option.some.inj this]
    have e0 := getD_take zs n 0 (by omega) hz
    have e1 := getD_take zs n 1 (by omega) hz
    have e2 := getD_take zs n 2 (by omega) hz
    have e3 := getD_take zs n 3 (by omega) hz
    have hcd' := hcd
    obtain ⟨⟨a1, a2⟩, ⟨a3, a4⟩, ⟨a5, a6⟩, ⟨a7, a8⟩⟩ := hcd'
    by_cases g3 : zs.getD 3 0 < 57
    · exact succ_1 x n cap (zs.take n) _ _ _ _ w (by omega) (by omega) hlt hc' e0 e1 e2 e3 hcd g3
    by_cases g2 : zs.getD 2 0 < 254
    · exact succ_2 x n cap (zs.take n) _ _ _ _ w (by omega) (by omega) hlt hc' e0 e1 e2 e3 hcd (by omega) g2
    by_cases g1 : zs.getD 1 0 < 57
    · exact succ_3 x n cap (zs.take n) _ _ _ _ w (by omega) (by omega) hlt hc' e0 e1 e2 e3 hcd (by omega) (by omega) g1
    by_cases g0 : zs.getD 0 0 < 254
    · exact succ_4 x n cap (zs.take n) _ _ _ _ w (by omega) (by omega) hlt hc' e0 e1 e2 e3 hcd (by omega) (by omega) (by omega) g0
    · exact succ_Z x n cap (zs.take n) _ _ _ _ w (by omega) (by omega) hlt hc' e0 e1 e2 e3 hcd (by omega) (by omega) (by omega) (by omega)
  · obtain ⟨b, off, rfl, ha⟩ := four_of x zs w (by omega) hc
    refine (succ_bad b off n cap _ _ _ _ w (by omega) (by omega) ha hcd).mono ?_
    rintro e w' ⟨rfl, rfl⟩
    exact ⟨rfl, Below.refl _ _⟩
end Go.Proofs.Qxb6615892a
