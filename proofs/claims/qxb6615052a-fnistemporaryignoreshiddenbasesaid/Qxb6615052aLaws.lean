/-
  THE TWO LAWS' WALKS (seat b6615052a).
-/
import Derived.Test.Qxb6615052aWalks
import Derived.Lib.SmallJoins
namespace Go.Proofs.Qxb6615052a
open Go.RowKit Go.Lib
set_option linter.unusedVariables false

theorem lawA_empty (b b2 rest : ByteArray) (w : World) (h1 : b.size ≤ 65536) (h2 : b2.size ≤ 65536) (h3 : rest.size ≤ 65536) (e1 : b.toList.isEmpty = false) (e2 : b2.toList.isEmpty = false) (e3 : rest.toList.isEmpty = true)
    (c1 : Calls Try.prog 6 #[.string (⟨#[46]⟩ ++ b ++ ⟨#[46, 116, 109, 112]⟩ ++ rest)] w fun e w' => e = .returned (.bool false) ∧ w' = w)
    (c2 : Calls Try.prog 6 #[.string (⟨#[46]⟩ ++ b2 ++ ⟨#[46, 116, 109, 112]⟩ ++ rest)] w fun e w' => e = .returned (.bool false) ∧ w' = w) :
    Calls Try.prog 3 #[.string b, .string b2, .string rest] w fun e w' => e = .returned (.bool true) ∧ w' = w := by
  have C1 := Lib.hid c1
  have C2 := Lib.hid c2
  clear c1 c2
  go_enter Try.func3, Try.ntmps3
  go_wp2_with fail
  refine (zzA_small b b2 rest w h1 h2 h3).mono ?_
  rintro e w' ⟨rfl, rfl⟩
  go_wp2_with fail
  refine C1.out.mono ?_
  rintro e w' ⟨rfl, rfl⟩
  go_wp2_with fail
  refine C2.out.mono ?_
  rintro e w' ⟨rfl, rfl⟩
  go_wp2
  go_ret
  exact ⟨rfl, rfl⟩

theorem lawA_full (b b2 rest : ByteArray) (t : Bool) (w : World) (h1 : b.size ≤ 65536) (h2 : b2.size ≤ 65536) (h3 : rest.size ≤ 65536) (e1 : b.toList.isEmpty = false) (e2 : b2.toList.isEmpty = false) (e3 : rest.toList.isEmpty = false)
    (c1 : Calls Try.prog 6 #[.string (⟨#[46]⟩ ++ b ++ ⟨#[46, 116, 109, 112]⟩ ++ rest)] w fun e w' => e = .returned (.bool (!t)) ∧ w' = w)
    (c2 : Calls Try.prog 6 #[.string (⟨#[46]⟩ ++ b2 ++ ⟨#[46, 116, 109, 112]⟩ ++ rest)] w fun e w' => e = .returned (.bool (!t)) ∧ w' = w)
    (c3 : Calls Try.prog 7 #[.string rest] w fun e w' => e = .returned (.bool t) ∧ w' = w) :
    Calls Try.prog 3 #[.string b, .string b2, .string rest] w fun e w' => e = .returned (.bool true) ∧ w' = w := by
  have C1 := Lib.hid c1
  have C2 := Lib.hid c2
  have C3 := Lib.hid c3
  clear c1 c2 c3
  cases t
  all_goals
    go_enter Try.func3, Try.ntmps3
    go_wp2_with fail
    refine (zzA_small b b2 rest w h1 h2 h3).mono ?_
    rintro e w' ⟨rfl, rfl⟩
    go_wp2_with fail
    refine C1.out.mono ?_
    rintro e w' ⟨rfl, rfl⟩
    go_wp2_with fail
    refine C2.out.mono ?_
    rintro e w' ⟨rfl, rfl⟩
    go_wp2_with fail
    refine C3.out.mono ?_
    rintro e w' ⟨rfl, rfl⟩
    go_wp2
    go_ret
    exact ⟨rfl, rfl⟩

/-- One of the two bases is empty. -/
theorem lawA_base (b b2 rest : ByteArray) (w : World) (h1 : b.size ≤ 65536) (h2 : b2.size ≤ 65536) (h3 : rest.size ≤ 65536) (x y : Bool) (e1 : b.toList.isEmpty = x) (e2 : b2.toList.isEmpty = y) (hxy : (x || y) = true) :
    Calls Try.prog 3 #[.string b, .string b2, .string rest] w fun e w' => e = .returned (.bool true) ∧ w' = w := by
  cases x
  · cases y
    · cases hxy
    · clear hxy
      go_enter Try.func3, Try.ntmps3
      go_wp2_with fail
      refine (zzA_small b b2 rest w h1 h2 h3).mono ?_
      rintro e w' ⟨rfl, rfl⟩
      go_wp2
      go_ret
      exact ⟨rfl, rfl⟩
  · clear hxy
    go_enter Try.func3, Try.ntmps3
    go_wp2_with fail
    refine (zzA_small b b2 rest w h1 h2 h3).mono ?_
    rintro e w' ⟨rfl, rfl⟩
    go_wp2
    go_ret
    exact ⟨rfl, rfl⟩

/-- One of the three is too long. -/
theorem lawA_long (b b2 rest : ByteArray) (w : World) (m1 : b.size ≤ maxLen) (m2 : b2.size ≤ maxLen) (m3 : rest.size ≤ maxLen) (h : 65536 < b.size ∨ 65536 < b2.size ∨ 65536 < rest.size) :
    Calls Try.prog 3 #[.string b, .string b2, .string rest] w fun e w' => e = .returned (.bool true) ∧ w' = w := by
  unfold maxLen at m1 m2 m3
  have HH := Lib.hid h
  by_cases g1 : 65536 < b.size
  · clear h
    go_enter Try.func3, Try.ntmps3
    go_wp2_with fail
    refine (zzA b b2 rest w).mono ?_
    rintro e w' ⟨⟨r, rfl⟩, rfl⟩
    cases r
    all_goals
      go_wp2
      go_ret
      exact ⟨rfl, rfl⟩
  by_cases g2 : 65536 < b2.size
  · clear h
    go_enter Try.func3, Try.ntmps3
    go_wp2_with fail
    refine (zzA b b2 rest w).mono ?_
    rintro e w' ⟨⟨r, rfl⟩, rfl⟩
    cases r
    all_goals
      go_wp2
      go_ret
      exact ⟨rfl, rfl⟩
  · have g3 : 65536 < rest.size := by omega
    clear h
    go_enter Try.func3, Try.ntmps3
    go_wp2_with fail
    refine (zzA b b2 rest w).mono ?_
    rintro e w' ⟨⟨r, rfl⟩, rfl⟩
    cases r
    all_goals
      go_wp2
      go_ret
      exact ⟨rfl, rfl⟩

theorem app_list (a b : ByteArray) : (a ++ b).data.toList = a.data.toList ++ b.data.toList := Go.Joins.data_append a b

theorem nameA_list (b rest : ByteArray) : ((⟨#[46]⟩ : ByteArray) ++ b ++ ⟨#[46, 116, 109, 112]⟩ ++ rest).data.toList = 46 :: b.data.toList ++ tmp ++ rest.data.toList := by
  rw [app_list, app_list, app_list]; rfl
theorem nameA_size (b rest : ByteArray) (h1 : b.size ≤ 65536) (h3 : rest.size ≤ 65536) : ((⟨#[46]⟩ : ByteArray) ++ b ++ ⟨#[46, 116, 109, 112]⟩ ++ rest).size ≤ 4194304 := by
  rw [← size_list, nameA_list]
  have := size_list b
  have := size_list rest
  simp only [List.length_append, List.length_cons, tmp_length]
  omega
theorem empty_list (b : ByteArray) : b.toList.isEmpty = b.data.toList.isEmpty := by rw [toList_data]

theorem callA (b rest : ByteArray) (w : World) (h1 : b.size ≤ 65536) (h3 : rest.size ≤ 65536) (e1 : b.toList.isEmpty = false) :
    Calls Try.prog 6 #[.string (⟨#[46]⟩ ++ b ++ ⟨#[46, 116, 109, 112]⟩ ++ rest)] w fun e w' => e = .returned (.bool (!rest.toList.isEmpty && !endsTmp rest.data.toList)) ∧ w' = w := by
  have h := zz_any (⟨#[46]⟩ ++ b ++ ⟨#[46, 116, 109, 112]⟩ ++ rest) w (nameA_size b rest h1 h3)
  rw [nameA_list, law_hidden _ _ (by intro h; rw [empty_list, h] at e1; cases e1)] at h
  rw [empty_list]
  exact h

theorem walkA (b b2 rest : ByteArray) (m1 : b.size ≤ maxLen) (m2 : b2.size ≤ maxLen) (m3 : rest.size ≤ maxLen) (w : World) :
    Calls Try.prog 3 #[.string b, .string b2, .string rest] w fun e w' => e = .returned (.bool true) ∧ w' = w := by
  by_cases hl : 65536 < b.size ∨ 65536 < b2.size ∨ 65536 < rest.size
  · exact lawA_long b b2 rest w m1 m2 m3 hl
  have h1 : b.size ≤ 65536 := by omega
  have h2 : b2.size ≤ 65536 := by omega
  have h3 : rest.size ≤ 65536 := by omega
  cases e1 : b.toList.isEmpty with
  | true => exact lawA_base b b2 rest w h1 h2 h3 true _ e1 rfl rfl
  | false =>
    cases e2 : b2.toList.isEmpty with
    | true => exact lawA_base b b2 rest w h1 h2 h3 false true e1 e2 rfl
    | false =>
      have c1 := callA b rest w h1 h3 e1
      have c2 := callA b2 rest w h2 h3 e2
      cases e3 : rest.toList.isEmpty with
      | true =>
        rw [e3] at c1 c2
        exact lawA_empty b b2 rest w h1 h2 h3 e1 e2 e3 c1 c2
      | false =>
        rw [e3] at c1 c2
        exact lawA_full b b2 rest (endsTmp rest.data.toList) w h1 h2 h3 e1 e2 e3 c1 c2 (ends_any rest w (by omega))

/-! ### the second law -/
theorem lawB_long (s t t2 : ByteArray) (w : World) (m1 : s.size ≤ maxLen) (m2 : t.size ≤ maxLen) (m3 : t2.size ≤ maxLen) (h : 65536 < s.size ∨ 65536 < t.size ∨ 65536 < t2.size) :
    Calls Try.prog 4 #[.string s, .string t, .string t2] w fun e w' => e = .returned (.bool true) ∧ w' = w := by
  unfold maxLen at m1 m2 m3
  by_cases g1 : 65536 < s.size
  · clear h
    go_enter Try.func4, Try.ntmps4
    go_wp2_with fail
    refine (zzB s t t2 w).mono ?_
    rintro e w' ⟨⟨r, rfl⟩, rfl⟩
    cases r
    all_goals
      go_wp2
      go_ret
      exact ⟨rfl, rfl⟩
  by_cases g2 : 65536 < t.size
  · clear h
    go_enter Try.func4, Try.ntmps4
    go_wp2_with fail
    refine (zzB s t t2 w).mono ?_
    rintro e w' ⟨⟨r, rfl⟩, rfl⟩
    cases r
    all_goals
      go_wp2
      go_ret
      exact ⟨rfl, rfl⟩
  · have g3 : 65536 < t2.size := by omega
    clear h
    go_enter Try.func4, Try.ntmps4
    go_wp2_with fail
    refine (zzB s t t2 w).mono ?_
    rintro e w' ⟨⟨r, rfl⟩, rfl⟩
    cases r
    all_goals
      go_wp2
      go_ret
      exact ⟨rfl, rfl⟩

/-- An empty tail. -/
theorem lawB_empty (s t t2 : ByteArray) (w : World) (h1 : s.size ≤ 65536) (h2 : t.size ≤ 65536) (h3 : t2.size ≤ 65536) (x y : Bool) (e1 : t.toList.isEmpty = x) (e2 : t2.toList.isEmpty = y) (hxy : (x || y) = true) :
    Calls Try.prog 4 #[.string s, .string t, .string t2] w fun e w' => e = .returned (.bool true) ∧ w' = w := by
  cases x
  · cases y
    · cases hxy
    · clear hxy
      go_enter Try.func4, Try.ntmps4
      go_wp2_with fail
      refine (zzB_small s t t2 w h1 h2 h3).mono ?_
      rintro e w' ⟨rfl, rfl⟩
      go_wp2
      go_ret
      exact ⟨rfl, rfl⟩
  · clear hxy
    go_enter Try.func4, Try.ntmps4
    go_wp2_with fail
    refine (zzB_small s t t2 w h1 h2 h3).mono ?_
    rintro e w' ⟨rfl, rfl⟩
    go_wp2
    go_ret
    exact ⟨rfl, rfl⟩

/-- A dot in the first tail. -/
theorem lawB_dot1 (s t t2 : ByteArray) (w : World) (h1 : s.size ≤ 65536) (h2 : t.size ≤ 65536) (h3 : t2.size ≤ 65536) (e1 : t.toList.isEmpty = false) (e2 : t2.toList.isEmpty = false)
    (c1 : Calls Try.prog 9 #[.string t] w fun e w' => e = .returned (.bool true) ∧ w' = w) :
    Calls Try.prog 4 #[.string s, .string t, .string t2] w fun e w' => e = .returned (.bool true) ∧ w' = w := by
  have C1 := Lib.hid c1
  clear c1
  go_enter Try.func4, Try.ntmps4
  go_wp2_with fail
  refine (zzB_small s t t2 w h1 h2 h3).mono ?_
  rintro e w' ⟨rfl, rfl⟩
  go_wp2_with fail
  refine C1.out.mono ?_
  rintro e w' ⟨rfl, rfl⟩
  go_wp2
  go_ret
  exact ⟨rfl, rfl⟩

/-- A dot in the second tail alone. -/
theorem lawB_dot2 (s t t2 : ByteArray) (w : World) (h1 : s.size ≤ 65536) (h2 : t.size ≤ 65536) (h3 : t2.size ≤ 65536) (e1 : t.toList.isEmpty = false) (e2 : t2.toList.isEmpty = false)
    (c1 : Calls Try.prog 9 #[.string t] w fun e w' => e = .returned (.bool false) ∧ w' = w) (c2 : Calls Try.prog 9 #[.string t2] w fun e w' => e = .returned (.bool true) ∧ w' = w) :
    Calls Try.prog 4 #[.string s, .string t, .string t2] w fun e w' => e = .returned (.bool true) ∧ w' = w := by
  have C1 := Lib.hid c1
  have C2 := Lib.hid c2
  clear c1 c2
  go_enter Try.func4, Try.ntmps4
  go_wp2_with fail
  refine (zzB_small s t t2 w h1 h2 h3).mono ?_
  rintro e w' ⟨rfl, rfl⟩
  go_wp2_with fail
  refine C1.out.mono ?_
  rintro e w' ⟨rfl, rfl⟩
  go_wp2_with fail
  refine C2.out.mono ?_
  rintro e w' ⟨rfl, rfl⟩
  go_wp2
  go_ret
  exact ⟨rfl, rfl⟩

/-- The stem is too short. -/
theorem lawB_short (s t t2 : ByteArray) (w : World) (h1 : s.size ≤ 65536) (h2 : t.size ≤ 65536) (h3 : t2.size ≤ 65536) (e1 : t.toList.isEmpty = false) (e2 : t2.toList.isEmpty = false) (hs : s.size < 2)
    (c1 : Calls Try.prog 9 #[.string t] w fun e w' => e = .returned (.bool false) ∧ w' = w) (c2 : Calls Try.prog 9 #[.string t2] w fun e w' => e = .returned (.bool false) ∧ w' = w)
    (c3 : Calls Try.prog 6 #[.string (s ++ ⟨#[46, 116, 109, 112]⟩ ++ t)] w fun e w' => e = .returned (.bool false) ∧ w' = w)
    (c4 : Calls Try.prog 6 #[.string (s ++ ⟨#[46, 116, 109, 112]⟩ ++ t2)] w fun e w' => e = .returned (.bool false) ∧ w' = w) :
    Calls Try.prog 4 #[.string s, .string t, .string t2] w fun e w' => e = .returned (.bool true) ∧ w' = w := by
  have C := Lib.hid (And.intro c1 (And.intro c2 (And.intro c3 c4)))
  clear c1 c2 c3 c4
  go_enter Try.func4, Try.ntmps4
  go_wp2_with fail
  refine (zzB_small s t t2 w h1 h2 h3).mono ?_
  rintro e w' ⟨rfl, rfl⟩
  go_wp2_with fail
  refine C.out.1.mono ?_
  rintro e w' ⟨rfl, rfl⟩
  go_wp2_with fail
  refine C.out.2.1.mono ?_
  rintro e w' ⟨rfl, rfl⟩
  go_wp2_with fail
  refine C.out.2.2.1.mono ?_
  rintro e w' ⟨rfl, rfl⟩
  go_wp2_with fail
  refine C.out.2.2.2.mono ?_
  rintro e w' ⟨rfl, rfl⟩
  go_wp2
  go_ret
  exact ⟨rfl, rfl⟩

/-- The stem has two bytes or more. -/
theorem lawB_main (s t t2 : ByteArray) (w : World) (h1 : s.size ≤ 65536) (h2 : t.size ≤ 65536) (h3 : t2.size ≤ 65536) (e1 : t.toList.isEmpty = false) (e2 : t2.toList.isEmpty = false) (hs : 2 ≤ s.size) (g : Bool)
    (hg : (((s[0]'(by omega)).toNat : Int) == 46) = g)
    (c1 : Calls Try.prog 9 #[.string t] w fun e w' => e = .returned (.bool false) ∧ w' = w) (c2 : Calls Try.prog 9 #[.string t2] w fun e w' => e = .returned (.bool false) ∧ w' = w)
    (c3 : Calls Try.prog 6 #[.string (s ++ ⟨#[46, 116, 109, 112]⟩ ++ t)] w fun e w' => e = .returned (.bool g) ∧ w' = w)
    (c4 : Calls Try.prog 6 #[.string (s ++ ⟨#[46, 116, 109, 112]⟩ ++ t2)] w fun e w' => e = .returned (.bool g) ∧ w' = w) :
    Calls Try.prog 4 #[.string s, .string t, .string t2] w fun e w' => e = .returned (.bool true) ∧ w' = w := by
  have C := Lib.hid (And.intro c1 (And.intro c2 (And.intro c3 c4)))
  clear c1 c2 c3 c4
  cases g
  all_goals
    go_enter Try.func4, Try.ntmps4
    go_wp2_with fail
    refine (zzB_small s t t2 w h1 h2 h3).mono ?_
    rintro e w' ⟨rfl, rfl⟩
    go_wp2_with fail
    refine C.out.1.mono ?_
    rintro e w' ⟨rfl, rfl⟩
    go_wp2_with fail
    refine C.out.2.1.mono ?_
    rintro e w' ⟨rfl, rfl⟩
    go_wp2_with fail
    refine C.out.2.2.1.mono ?_
    rintro e w' ⟨rfl, rfl⟩
    go_wp2_with fail
    refine C.out.2.2.2.mono ?_
    rintro e w' ⟨rfl, rfl⟩
    go_wp2
    go_ret
    exact ⟨rfl, rfl⟩

theorem nameB_list (s t : ByteArray) : (s ++ ⟨#[46, 116, 109, 112]⟩ ++ t).data.toList = s.data.toList ++ tmp ++ t.data.toList := by
  rw [app_list, app_list]; rfl
theorem nameB_size (s t : ByteArray) (h1 : s.size ≤ 65536) (h3 : t.size ≤ 65536) : (s ++ ⟨#[46, 116, 109, 112]⟩ ++ t).size ≤ 4194304 := by
  rw [← size_list, nameB_list]
  have := size_list s
  have := size_list t
  simp only [List.length_append, tmp_length]
  omega
theorem callB (s t : ByteArray) (w : World) (h1 : s.size ≤ 65536) (h3 : t.size ≤ 65536) (e1 : t.toList.isEmpty = false) (hd : ∀ k (h : k < t.size), t[k] ≠ 46) :
    Calls Try.prog 6 #[.string (s ++ ⟨#[46, 116, 109, 112]⟩ ++ t)] w fun e w' => e = .returned (.bool (decide (2 ≤ s.size) && (s.data.toList.head? == some 46))) ∧ w' = w := by
  have h := zz_any (s ++ ⟨#[46, 116, 109, 112]⟩ ++ t) w (nameB_size s t h1 h3)
  rw [nameB_list, law_tail _ _ (by intro h; rw [empty_list, h] at e1; cases e1) ?hd, size_list] at h
  case hd =>
    intro c hc
    obtain ⟨k, hk, rfl⟩ := List.getElem_of_mem hc
    rw [size_list] at hk
    rw [get_list t k hk]
    exact hd k hk
  exact h

/-- A dot stands in it or not. -/
theorem dot_or (t : ByteArray) : (∀ k (h : k < t.size), t[k] ≠ 46) ∨ ∃ j, ∃ h : j < t.size, t[j] = 46 := by
  by_cases h : ∃ j, ∃ h : j < t.size, t[j] = 46
  · exact .inr h
  · exact .inl fun k hk e => h ⟨k, hk, e⟩

theorem walkB (s t t2 : ByteArray) (m1 : s.size ≤ maxLen) (m2 : t.size ≤ maxLen) (m3 : t2.size ≤ maxLen) (w : World) :
    Calls Try.prog 4 #[.string s, .string t, .string t2] w fun e w' => e = .returned (.bool true) ∧ w' = w := by
  by_cases hl : 65536 < s.size ∨ 65536 < t.size ∨ 65536 < t2.size
  · exact lawB_long s t t2 w m1 m2 m3 hl
  have h1 : s.size ≤ 65536 := by omega
  have h2 : t.size ≤ 65536 := by omega
  have h3 : t2.size ≤ 65536 := by omega
  cases e1 : t.toList.isEmpty with
  | true => exact lawB_empty s t t2 w h1 h2 h3 true _ e1 rfl rfl
  | false =>
    cases e2 : t2.toList.isEmpty with
    | true => exact lawB_empty s t t2 w h1 h2 h3 false true e1 e2 rfl
    | false =>
      rcases dot_or t with d1 | ⟨j, hj, d1⟩
      · rcases dot_or t2 with d2 | ⟨j, hj, d2⟩
        · have c1 := hasDot_no t w (by omega) d1
          have c2 := hasDot_no t2 w (by omega) d2
          have c3 := callB s t w h1 h2 e1 d1
          have c4 := callB s t2 w h1 h3 e2 d2
          by_cases hs : 2 ≤ s.size
          · have hg : (s.data.toList.head? == some 46) = (((s[0]'(by omega)).toNat : Int) == 46) := by
              have e : s.data.toList.head? = some (s[0]'(by omega)) := by
                rw [List.head?_eq_getElem?, List.getElem?_eq_getElem (by rw [size_list]; omega), get_list s 0 (by omega)]
              rw [e, Bool.eq_iff_iff, beq_iff_eq, beq_iff_eq, Option.some.injEq]
              constructor
              · intro h; rw [h]; rfl
              · intro h
                apply UInt8.toNat.inj
                have : (46 : UInt8).toNat = 46 := rfl
                omega
            rw [decide_eq_true hs, Bool.true_and, hg] at c3 c4
            exact lawB_main s t t2 w h1 h2 h3 e1 e2 hs _ rfl c1 c2 c3 c4
          · rw [decide_eq_false hs, Bool.false_and] at c3 c4
            exact lawB_short s t t2 w h1 h2 h3 e1 e2 (by omega) c1 c2 c3 c4
        · exact lawB_dot2 s t t2 w h1 h2 h3 e1 e2 (hasDot_no t w (by omega) d1) (hasDot_yes t2 j w (by omega) hj d2)
      · exact lawB_dot1 s t t2 w h1 h2 h3 e1 e2 (hasDot_yes t j w (by omega) hj d1)
end Go.Proofs.Qxb6615052a
