/-
  THE WALKS (seat b6615052a): isTemporary, ZZIsTemporary, endsWithTmp, hasDot, the bounds.
-/
import Derived.Test.Qxb6615052aShelf
import Derived.Test.Qxb6615052aPlain
import Derived.WalkKit
import Derived.WalkLawsBesides
import Derived.WalkSpells
import Derived.Lib.Hide
namespace Go.Proofs.Qxb6615052a
open Go.RowKit Go.Lib
set_option linter.unusedVariables false

theorem isTmp_core (s : ByteArray) (p : Bool) (i : Int) (w : World) (h0 : -1 ≤ i) (h1 : i ≤ s.size) (hs : s.size ≤ 4194304)
    (hi : Calls Try.prog 11 #[.string s, .string ⟨#[46, 116, 109, 112]⟩] w fun e w' => e = .returned (.int .i64 i) ∧ w' = w)
    (hp : Calls Try.prog 12 #[.string s, .string ⟨#[46]⟩] w fun e w' => e = .returned (.bool p) ∧ w' = w) :
    Calls Try.prog 10 #[.string s] w fun e w' => e = .returned (.bool (p && decide (1 < i) && decide (i + 4 < (s.size : Int)))) ∧ w' = w := by
  have HI := Lib.hid hi
  have HP := Lib.hid hp
  clear hi hp
  cases p
  · rw [Bool.false_and, Bool.false_and]
    go_enter Try.func10, Try.ntmps10
    go_wp2_with (first | (go_at_call 11; refine HI.out.mono ?_; rintro e w' ⟨rfl, rfl⟩) | (go_at_call 12; refine HP.out.mono ?_; rintro e w' ⟨rfl, rfl⟩))
    go_ret
    exact ⟨rfl, rfl⟩
  · by_cases g1 : 1 < i
    · rw [decide_eq_true g1, Bool.true_and, Bool.true_and]
      go_enter Try.func10, Try.ntmps10
      go_wp2_with (first | (go_at_call 11; refine HI.out.mono ?_; rintro e w' ⟨rfl, rfl⟩) | (go_at_call 12; refine HP.out.mono ?_; rintro e w' ⟨rfl, rfl⟩))
      go_ret
      exact ⟨rfl, rfl⟩
    · rw [decide_eq_false g1, Bool.and_false, Bool.false_and]
      go_enter Try.func10, Try.ntmps10
      go_wp2_with (first | (go_at_call 11; refine HI.out.mono ?_; rintro e w' ⟨rfl, rfl⟩) | (go_at_call 12; refine HP.out.mono ?_; rintro e w' ⟨rfl, rfl⟩))
      go_ret
      exact ⟨rfl, rfl⟩

theorem size_list (s : ByteArray) : s.data.toList.length = s.size := Array.length_toList

/-- ZZIsTemporary: the plain verdict. -/
theorem zz_any (s : ByteArray) (w : World) (hs : s.size ≤ 4194304) :
    Calls Try.prog 6 #[.string s] w fun e w' => e = .returned (.bool (isTmp s.data.toList)) ∧ w' = w := by
  have hb := last_bounds s.data.toList
  have hl := size_list s
  have hc := isTmp_core s (hasPrefix s.data.toList [46]) (lastIndex s.data.toList tmp) w hb.1 (by omega) hs (Try.strings_LastIndex s ⟨#[46, 116, 109, 112]⟩ (by omega) w) (Try.strings_HasPrefix s ⟨#[46]⟩ w)
  rw [← hl] at hc
  have HC := Lib.hid (show Calls Try.prog 10 #[.string s] w fun e w' => e = .returned (.bool (isTmp s.data.toList)) ∧ w' = w from hc)
  clear hc hb hl
  go_enter Try.func6, Try.ntmps6
  go_wp2_with (go_at_call 10; refine HC.out.mono ?_; rintro e w' ⟨rfl, rfl⟩)
  go_ret
  exact ⟨rfl, rfl⟩

theorem ends_short (s : ByteArray) (w : World) (h : s.size < 4) :
    Calls Try.prog 7 #[.string s] w fun e w' => e = .returned (.bool false) ∧ w' = w := by
  have h' : (s.size : Int) < 4 := by omega
  go_enter Try.func7, Try.ntmps7
  go_wp2
  go_ret
  exact ⟨rfl, rfl⟩

theorem four_pre (a b c d : UInt8) (r : List UInt8) : tmp.isPrefixOf (a :: b :: c :: d :: r) = ((a.toNat : Int) == 46 && (b.toNat : Int) == 116 && (c.toNat : Int) == 109 && (d.toNat : Int) == 112) := by
  have e : tmp.isPrefixOf (a :: b :: c :: d :: r) = ((46 == a) && ((116 == b) && ((109 == c) && ((112 == d) && true)))) := rfl
  have k : ∀ (x : UInt8) (n : Nat) (hn : n < 256), (UInt8.ofNat n == x) = ((x.toNat : Int) == (n : Int)) := by
    intro x n hn
    rw [Bool.eq_iff_iff, beq_iff_eq, beq_iff_eq]
    constructor
    · rintro rfl; rw [UInt8.toNat_ofNat']; omega
    · intro h
      apply UInt8.toNat.inj
      rw [UInt8.toNat_ofNat']
      omega
  rw [e, show (46 : UInt8) = UInt8.ofNat 46 from rfl, show (116 : UInt8) = UInt8.ofNat 116 from rfl, show (109 : UInt8) = UInt8.ofNat 109 from rfl, show (112 : UInt8) = UInt8.ofNat 112 from rfl]
  rw [k a 46 (by omega), k b 116 (by omega), k c 109 (by omega), k d 112 (by omega), Bool.and_true, Bool.and_assoc, Bool.and_assoc]
  rfl

theorem get_list (s : ByteArray) (k : Nat) (h : k < s.size) : s.data.toList[k]'(by rw [size_list]; exact h) = s[k] := rfl

theorem ends_eq (s : ByteArray) (h : 4 ≤ s.size) : endsTmp s.data.toList =
    (((s[s.size - 4]'(by omega)).toNat : Int) == 46 && ((s[s.size - 3]'(by omega)).toNat : Int) == 116 && ((s[s.size - 2]'(by omega)).toNat : Int) == 109 && ((s[s.size - 1]'(by omega)).toNat : Int) == 112) := by
  have hl := size_list s
  unfold endsTmp occAt
  rw [hl, decide_eq_true h, Bool.true_and]
  have e : s.data.toList.drop (s.size - 4) = (s[s.size - 4]'(by omega)) :: (s[s.size - 3]'(by omega)) :: (s[s.size - 2]'(by omega)) :: (s[s.size - 1]'(by omega)) :: s.data.toList.drop s.size := by
    rw [List.drop_eq_getElem_cons (by omega), get_list s _ (by omega)]
    rw [show s.size - 4 + 1 = s.size - 3 by omega, List.drop_eq_getElem_cons (by omega), get_list s _ (by omega)]
    rw [show s.size - 3 + 1 = s.size - 2 by omega, List.drop_eq_getElem_cons (by omega), get_list s _ (by omega)]
    rw [show s.size - 2 + 1 = s.size - 1 by omega, List.drop_eq_getElem_cons (by omega), get_list s _ (by omega)]
    rw [show s.size - 1 + 1 = s.size by omega]
  rw [e, four_pre]

theorem ret_bool {a b : Bool} (h : a = b) : Ending.returned (.bool a) = .returned (.bool b) := by rw [h]

theorem ends_long (s : ByteArray) (w : World) (h : 4 ≤ s.size) (hs : s.size ≤ 4194304) :
    Calls Try.prog 7 #[.string s] w fun e w' => e = .returned (.bool (endsTmp s.data.toList)) ∧ w' = w := by
  have h' : ¬ (s.size : Int) < 4 := by omega
  have HE := Lib.hid (ends_eq s h)
  go_enter Try.func7, Try.ntmps7
  go_wp2
  all_goals
    go_ret
    refine ⟨ret_bool ?_, rfl⟩
    rw [HE.out]
    simp [*]

theorem ends_any (s : ByteArray) (w : World) (hs : s.size ≤ 4194304) :
    Calls Try.prog 7 #[.string s] w fun e w' => e = .returned (.bool (endsTmp s.data.toList)) ∧ w' = w := by
  by_cases h : 4 ≤ s.size
  · exact ends_long s w h hs
  · have : endsTmp s.data.toList = false := by unfold endsTmp; rw [size_list, decide_eq_false h, Bool.false_and]
    rw [this]
    exact ends_short s w (by omega)

/-- hasDot: no dot. -/
theorem hasDot_no (s : ByteArray) (w : World) (hs : s.size ≤ 4194304) (hd : ∀ k (h : k < s.size), s[k] ≠ 46) :
    Calls Try.prog 9 #[.string s] w fun e w' => e = .returned (.bool false) ∧ w' = w := by
  have HD := Lib.hid hd
  clear hd
  go_enter Try.func9, Try.ntmps9
  go_wp2
  go_loop [3] (fun i => ∃ k : Nat, k ≤ s.size ∧ i = .int .i64 k) (fun i => s.size - (RowKit.intOf i).toNat)
  case atStart => exact ⟨0, Nat.zero_le _, rfl⟩
  case round =>
    obtain ⟨k, hk, rfl⟩ := hrel
    by_cases hlt : k < s.size
    · have hne : ((s[k].toNat : Int) == 46) = false := by
        rw [beq_eq_false_iff_ne]
        intro h
        refine HD.out k hlt ?_
        apply UInt8.toNat.inj
        have : (46 : UInt8).toNat = 46 := rfl
        omega
      go_wp2
      go_round
      case rel => exact ⟨k + 1, by omega, by go_num⟩
      case measure => simp [RowKit.intOf]; omega
    · go_wp2
      go_ret
      exact ⟨rfl, rfl⟩

/-- hasDot: a dot stands at j. -/
theorem hasDot_yes (s : ByteArray) (j : Nat) (w : World) (hs : s.size ≤ 4194304) (hj : j < s.size) (hd : s[j] = 46) :
    Calls Try.prog 9 #[.string s] w fun e w' => e = .returned (.bool true) ∧ w' = w := by
  have HD := Lib.hid hd
  clear hd
  go_enter Try.func9, Try.ntmps9
  go_wp2
  go_loop [3] (fun i => ∃ k : Nat, k ≤ j ∧ i = .int .i64 k) (fun i => s.size - (RowKit.intOf i).toNat)
  case atStart => exact ⟨0, Nat.zero_le _, rfl⟩
  case round =>
    obtain ⟨k, hk, rfl⟩ := hrel
    have hlt : k < s.size := by omega
    by_cases hc : (s[k].toNat : Int) = 46
    · have hne : ((s[k].toNat : Int) == 46) = true := by rw [beq_iff_eq]; exact hc
      clear hc
      go_wp2
      go_ret
      exact ⟨rfl, rfl⟩
    · have hne : ((s[k].toNat : Int) == 46) = false := by rw [beq_eq_false_iff_ne]; exact hc
      have hkj : k < j := by
        rcases Nat.lt_or_ge k j with h | h
        · exact h
        · exfalso
          obtain rfl : k = j := by omega
          apply hc
          rw [HD.out]
          rfl
      clear hc
      go_wp2
      go_round
      case rel => exact ⟨k + 1, by omega, by go_num⟩
      case measure => simp [RowKit.intOf]; omega

/-- The bound on all lengths answers something. -/
theorem zzA (a b c : ByteArray) (w : World) : Calls Try.prog 5 #[.string a, .string b, .string c] w fun e w' => (∃ r, e = .returned (.bool r)) ∧ w' = w := by
  go_enter Try.func5, Try.ntmps5
  go_wp2
  all_goals
    go_ret
    exact ⟨⟨_, rfl⟩, rfl⟩
theorem zzA_small (a b c : ByteArray) (w : World) (ha : a.size ≤ 65536) (hb : b.size ≤ 65536) (hc : c.size ≤ 65536) : Calls Try.prog 5 #[.string a, .string b, .string c] w fun e w' => e = .returned (.bool true) ∧ w' = w := by
  go_enter Try.func5, Try.ntmps5
  go_wp2
  go_ret
  exact ⟨rfl, rfl⟩
theorem zzB (a b c : ByteArray) (w : World) : Calls Try.prog 8 #[.string a, .string b, .string c] w fun e w' => (∃ r, e = .returned (.bool r)) ∧ w' = w := by
  go_enter Try.func8, Try.ntmps8
  go_wp2
  all_goals
    go_ret
    exact ⟨⟨_, rfl⟩, rfl⟩
theorem zzB_small (a b c : ByteArray) (w : World) (ha : a.size ≤ 65536) (hb : b.size ≤ 65536) (hc : c.size ≤ 65536) : Calls Try.prog 8 #[.string a, .string b, .string c] w fun e w' => e = .returned (.bool true) ∧ w' = w := by
  go_enter Try.func8, Try.ntmps8
  go_wp2
  go_ret
  exact ⟨rfl, rfl⟩

end Go.Proofs.Qxb6615052a
