/-
  THE LAW 'FnFourByteIndexOrder' (seat b6615892a): the early answers, and all together.
-/
import Derived.Test.Qxb6615892aOrd
namespace Go.Proofs.Qxb6615892a
open Go.RowKit
set_option linter.unusedVariables false

theorem zz_false9 (a b : Option Addr) (n c m d : Nat) (w : World) (m1 : n ≤ 9223372036854775807) (m2 : m ≤ 9223372036854775807) (h : 1048576 < n + m) : Calls Try.prog 9 #[.slice a n c, .slice b m d] w fun e w' => e = .returned (.bool false) ∧ w' = w := by
  by_cases g1 : 1048576 < n
  · go_enter Try.func9, Try.ntmps9
    go_wp2
    go_ret
    exact ⟨rfl, rfl⟩
  by_cases g2 : 1048576 < m
  · go_enter Try.func9, Try.ntmps9
    go_wp2
    go_ret
    exact ⟨rfl, rfl⟩
  · go_enter Try.func9, Try.ntmps9
    go_wp2
    go_ret
    exact ⟨rfl, rfl⟩

theorem ord_long (a b : Option Addr) (n c m d : Nat) (w : World) (m1 : n ≤ 9223372036854775807) (m2 : m ≤ 9223372036854775807) (h : 1048576 < n + m) :
    Calls Try.prog 4 #[.slice a n c, .slice b m d] w fun e w' => e = .returned (.bool true) ∧ w' = w := by
  have HZ := Lib.hid (zz_false9 a b n c m d w m1 m2 h)
  clear h
  go_enter Try.func4, Try.ntmps4
  go_wp2_with fail
  refine HZ.out.mono ?_
  rintro e w' ⟨rfl, rfl⟩
  go_wp2
  go_ret
  exact ⟨rfl, rfl⟩
theorem ord_short (a b : Option Addr) (n c m d : Nat) (w : World) (hs : n + m ≤ 1048576) (h : n < 4 ∨ m < 4) :
    Calls Try.prog 4 #[.slice a n c, .slice b m d] w fun e w' => e = .returned (.bool true) ∧ w' = w := by
  by_cases g : n < 4
  · clear h
    go_enter Try.func4, Try.ntmps4
    go_wp2_with fail
    refine (zz_small9 a b n c m d w hs).mono ?_
    rintro e w' ⟨rfl, rfl⟩
    go_wp2
    go_ret
    exact ⟨rfl, rfl⟩
  · have g2 : m < 4 := by omega
    clear h
    go_enter Try.func4, Try.ntmps4
    go_wp2_with fail
    refine (zz_small9 a b n c m d w hs).mono ?_
    rintro e w' ⟨rfl, rfl⟩
    go_wp2
    go_ret
    exact ⟨rfl, rfl⟩
theorem ord_bad1 (ba oa : Nat) (b : Option Addr) (n c m d : Nat) (a0 a1 a2 a3 : Int) (w : World) (hs : n + m ≤ 1048576) (h4 : 4 ≤ n) (h4m : 4 ≤ m) (ha : At4 w ba oa a0 a1 a2 a3) (h : ¬ Code4 a0 a1 a2 a3) :
    Calls Try.prog 4 #[.slice (some ⟨ba, oa, none⟩) n c, .slice b m d] w fun e w' => e = .returned (.bool true) ∧ w' = w := by
  have HV := Lib.hid (valid_no ba oa n c a0 a1 a2 a3 w h4 (by omega) ha h)
  clear ha h
  go_enter Try.func4, Try.ntmps4
  go_wp2_with fail
  refine (zz_small9 _ b n c m d w hs).mono ?_
  rintro e w' ⟨rfl, rfl⟩
  go_wp2_with fail
  refine HV.out.mono ?_
  rintro e w' ⟨rfl, rfl⟩
  go_wp2
  go_ret
  exact ⟨rfl, rfl⟩
theorem ord_bad2 (ba oa bb ob : Nat) (n c m d : Nat) (a0 a1 a2 a3 b0 b1 b2 b3 : Int) (w : World) (hs : n + m ≤ 1048576) (h4 : 4 ≤ n) (h4m : 4 ≤ m) (ha : At4 w ba oa a0 a1 a2 a3) (ca : Code4 a0 a1 a2 a3) (hb : At4 w bb ob b0 b1 b2 b3) (h : ¬ Code4 b0 b1 b2 b3) :
    Calls Try.prog 4 #[.slice (some ⟨ba, oa, none⟩) n c, .slice (some ⟨bb, ob, none⟩) m d] w fun e w' => e = .returned (.bool true) ∧ w' = w := by
  have HU := Lib.hid (valid_yes ba oa n c a0 a1 a2 a3 w h4 (by omega) ha ca)
  have HV := Lib.hid (valid_no bb ob m d b0 b1 b2 b3 w h4m (by omega) hb h)
  clear ha h ca hb
  go_enter Try.func4, Try.ntmps4
  go_wp2_with fail
  refine (zz_small9 _ _ n c m d w hs).mono ?_
  rintro e w' ⟨rfl, rfl⟩
  go_wp2_with fail
  refine HU.out.mono ?_
  rintro e w' ⟨rfl, rfl⟩
  go_wp2_with fail
  refine HV.out.mono ?_
  rintro e w' ⟨rfl, rfl⟩
  go_wp2
  go_ret
  exact ⟨rfl, rfl⟩

theorem same_post {w : World} {P : Program} {f : Nat} {args : Array Value} (h : Calls P f args w fun e w' => e = .returned (.bool true) ∧ w' = w) : Calls P f args w fun e w' => e = .returned (.bool true) ∧ Below w.heap.size w w' :=
  h.mono fun e w' ⟨he, hw⟩ => ⟨he, by rw [hw]; exact Below.refl _ _⟩

theorem ord_all (x y : Addr) (n c m d : Nat) (za zb : List Int) (w : World) (m1 : n ≤ 9223372036854775807) (m2 : m ≤ 9223372036854775807) (hz : n ≤ za.length) (hy : m ≤ zb.length)
    (hc : ∀ i, i < za.length → w.cell? (x.add i) = some (.int .u8 (za.getD i 0))) (hd : ∀ i, i < zb.length → w.cell? (y.add i) = some (.int .u8 (zb.getD i 0))) :
    Calls Try.prog 4 #[.slice (some x) n c, .slice (some y) m d] w fun e w' => e = .returned (.bool true) ∧ Below w.heap.size w w' := by
  by_cases hl : 1048576 < n + m
  · exact same_post (ord_long _ _ n c m d w m1 m2 hl)
  by_cases h4 : n < 4 ∨ m < 4
  · exact same_post (ord_short _ _ n c m d w (by omega) h4)
  obtain ⟨ba, oa, rfl, ha⟩ := four_of x za w (by omega) hc
  obtain ⟨bb, ob, rfl, hb⟩ := four_of y zb w (by omega) hd
  by_cases ca : Code4 (za.getD 0 0) (za.getD 1 0) (za.getD 2 0) (za.getD 3 0)
  case neg => exact same_post (ord_bad1 ba oa _ n c m d _ _ _ _ w (by omega) (by omega) (by omega) ha ca)
  by_cases cb' : Code4 (zb.getD 0 0) (zb.getD 1 0) (zb.getD 2 0) (zb.getD 3 0)
  case neg => exact same_post (ord_bad2 ba oa bb ob n c m d _ _ _ _ _ _ _ _ w (by omega) (by omega) (by omega) ha ca hb cb')
  have la : (za.take n).length = n := by rw [List.length_take]; omega
  have lb : (zb.take m).length = m := by rw [List.length_take]; omega
  have hc' : ∀ j (h : j < (za.take n).length), w.cell? ((⟨ba, oa, none⟩ : Addr).add j) = some (.int .u8 (za.take n)[j]) := by
    intro j h
    rw [hc j (by omega)]
    have := getD_take za n j (by omega) hz
    rw [List.getElem?_eq_getElem h] at this
    rw [Option.some.inj this]
  have hd' : ∀ j (h : j < (zb.take m).length), w.cell? ((⟨bb, ob, none⟩ : Addr).add j) = some (.int .u8 (zb.take m)[j]) := by
    intro j h
    rw [hd j (by omega)]
    have := getD_take zb m j (by omega) hy
    rw [List.getElem?_eq_getElem h] at this
    rw [Option.some.inj this]
  have e0 := getD_take za n 0 (by omega) hz
  have e1 := getD_take za n 1 (by omega) hz
  have e2 := getD_take za n 2 (by omega) hz
  have e3 := getD_take za n 3 (by omega) hz
  have f0 := getD_take zb m 0 (by omega) hy
  have f1 := getD_take zb m 1 (by omega) hy
  have f2 := getD_take zb m 2 (by omega) hy
  have f3 := getD_take zb m 3 (by omega) hy
  by_cases g0 : za.getD 0 0 = zb.getD 0 0
  · by_cases g1 : za.getD 1 0 = zb.getD 1 0
    · by_cases g2 : za.getD 2 0 = zb.getD 2 0
      · by_cases g3 : za.getD 3 0 = zb.getD 3 0
        · exact ord_4e ba oa bb ob n c m d (za.take n) (zb.take m) _ _ _ _ _ _ _ _ w (by omega) (by omega) (by omega) (by omega) (by omega) la lb hc' hd' e0 e1 e2 e3 f0 f1 f2 f3 ha hb ca cb' g0 g1 g2 g3
        · rcases Int.lt_or_gt_of_ne g3 with s | s
          · exact ord_3l ba oa bb ob n c m d (za.take n) (zb.take m) _ _ _ _ _ _ _ _ w (by omega) (by omega) (by omega) (by omega) (by omega) la lb hc' hd' e0 e1 e2 e3 f0 f1 f2 f3 ha hb ca cb' g0 g1 g2 s
          · exact ord_3g ba oa bb ob n c m d (za.take n) (zb.take m) _ _ _ _ _ _ _ _ w (by omega) (by omega) (by omega) (by omega) (by omega) la lb hc' hd' e0 e1 e2 e3 f0 f1 f2 f3 ha hb ca cb' g0 g1 g2 s
      · rcases Int.lt_or_gt_of_ne g2 with s | s
        · exact ord_2l ba oa bb ob n c m d (za.take n) (zb.take m) _ _ _ _ _ _ _ _ w (by omega) (by omega) (by omega) (by omega) (by omega) la lb hc' hd' e0 e1 e2 e3 f0 f1 f2 f3 ha hb ca cb' g0 g1 s
        · exact ord_2g ba oa bb ob n c m d (za.take n) (zb.take m) _ _ _ _ _ _ _ _ w (by omega) (by omega) (by omega) (by omega) (by omega) la lb hc' hd' e0 e1 e2 e3 f0 f1 f2 f3 ha hb ca cb' g0 g1 s
    · rcases Int.lt_or_gt_of_ne g1 with s | s
      · exact ord_1l ba oa bb ob n c m d (za.take n) (zb.take m) _ _ _ _ _ _ _ _ w (by omega) (by omega) (by omega) (by omega) (by omega) la lb hc' hd' e0 e1 e2 e3 f0 f1 f2 f3 ha hb ca cb' g0 s
      · exact ord_1g ba oa bb ob n c m d (za.take n) (zb.take m) _ _ _ _ _ _ _ _ w (by omega) (by omega) (by omega) (by omega) (by omega) la lb hc' hd' e0 e1 e2 e3 f0 f1 f2 f3 ha hb ca cb' g0 s
  · rcases Int.lt_or_gt_of_ne g0 with s | s
    · exact ord_0l ba oa bb ob n c m d (za.take n) (zb.take m) _ _ _ _ _ _ _ _ w (by omega) (by omega) (by omega) (by omega) (by omega) la lb hc' hd' e0 e1 e2 e3 f0 f1 f2 f3 ha hb ca cb' s
    · exact ord_0g ba oa bb ob n c m d (za.take n) (zb.take m) _ _ _ _ _ _ _ _ w (by omega) (by omega) (by omega) (by omega) (by omega) la lb hc' hd' e0 e1 e2 e3 f0 f1 f2 f3 ha hb ca cb' s
end Go.Proofs.Qxb6615892a
