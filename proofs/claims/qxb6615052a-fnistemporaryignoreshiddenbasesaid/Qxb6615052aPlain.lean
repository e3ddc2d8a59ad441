/-
  PLAIN LISTS (seat b6615052a): where the last ".tmp" stands in a name. No Go in sight.
-/
import Derived.Lib.LastIndexLaws
import Derived.Lib.Strings
namespace Go.Proofs.Qxb6615052a
open Go.Lib

/-- The bytes of ".tmp". -/
def tmp : List UInt8 := [46, 116, 109, 112]
theorem tmp_length : tmp.length = 4 := rfl

theorem occ_iff (l : List UInt8) (j : Nat) : occAt l tmp j = true ↔ ∃ r, l.drop j = tmp ++ r := by
  unfold occAt
  rw [List.isPrefixOf_iff_prefix]
  constructor
  · rintro ⟨r, h⟩; exact ⟨r, h.symm⟩
  · rintro ⟨r, h⟩; exact ⟨r, h.symm⟩

theorem occ_len (l : List UInt8) (j : Nat) (h : occAt l tmp j = true) : j + 4 ≤ l.length := by
  obtain ⟨r, h⟩ := (occ_iff l j).1 h
  have := congrArg List.length h
  rw [List.length_drop, List.length_append, tmp_length] at this
  omega

theorem last_unique (l : List UInt8) (j : Nat) (h : occAt l tmp j = true) (hn : ∀ k, j < k → occAt l tmp k = false) : lastIndex l tmp = (j : Int) := by
  have hl := occ_len l j h
  unfold lastIndex
  rw [if_pos (by rw [tmp_length]; omega)]
  rcases lastOcc_spec l tmp (l.length - tmp.length + 1) with ⟨_, hno⟩ | ⟨i, hi, e, hc, hno⟩
  · rw [hno j (by rw [tmp_length]; omega)] at h; cases h
  · rw [e]
    have hij : i = j := by
      rcases Nat.lt_trichotomy i j with h1 | h1 | h1
      · rw [hno j h1 (by rw [tmp_length]; omega)] at h; cases h
      · exact h1
      · rw [hn i h1] at hc; cases hc
    rw [hij]

theorem last_bounds (l : List UInt8) : -1 ≤ lastIndex l tmp ∧ lastIndex l tmp ≤ l.length := by
  unfold lastIndex
  split
  · rcases lastOcc_spec l tmp (l.length - tmp.length + 1) with ⟨e, _⟩ | ⟨i, hi, e, _, _⟩
    · rw [e]; omega
    · rw [e]; rw [tmp_length] at hi; omega
  · omega

/-- What the Go text asks of a name. -/
def isTmp (l : List UInt8) : Bool := hasPrefix l [46] && decide (1 < lastIndex l tmp) && decide (lastIndex l tmp + 4 < (l.length : Int))
/-- The list ends in ".tmp". -/
def endsTmp (l : List UInt8) : Bool := decide (4 ≤ l.length) && occAt l tmp (l.length - 4)

/-- The last place is at least any place; it is the very end just where the name ends in ".tmp". -/
theorem last_of (l : List UInt8) (j : Nat) (h : occAt l tmp j = true) :
    (j : Int) ≤ lastIndex l tmp ∧ (decide (lastIndex l tmp + 4 < (l.length : Int)) = !occAt l tmp (l.length - 4)) := by
  have hl := occ_len l j h
  unfold lastIndex
  rw [if_pos (by rw [tmp_length]; omega)]
  rcases lastOcc_spec l tmp (l.length - tmp.length + 1) with ⟨_, hno⟩ | ⟨i, hi, e, hc, hno⟩
  · rw [hno j (by rw [tmp_length]; omega)] at h; cases h
  · rw [e]
    rw [tmp_length] at hi hno
    refine ⟨?_, ?_⟩
    · rcases Nat.lt_or_ge i j with h1 | h1
      · rw [hno j h1 (by omega)] at h; cases h
      · omega
    · by_cases hi4 : i = l.length - 4
      · rw [← hi4, hc]
        simp; omega
      · rw [hno (l.length - 4) (by omega) (by omega)]
        simp; omega

theorem occ_mid (p r : List UInt8) : occAt (p ++ tmp ++ r) tmp p.length = true := by
  rw [occ_iff]
  exact ⟨r, by simp⟩

/-- Behind a ".tmp" a tail of one byte or more: the whole ends in ".tmp" just where the tail does. -/
theorem ends_tail (p r : List UInt8) (hr : r ≠ []) : occAt (p ++ tmp ++ r) tmp ((p ++ tmp ++ r).length - 4) = endsTmp r := by
  have hN : (p ++ tmp ++ r).length = p.length + 4 + r.length := by simp [tmp]; omega
  rw [hN]
  unfold endsTmp
  by_cases h4 : 4 ≤ r.length
  · rw [decide_eq_true h4, Bool.true_and]
    unfold occAt
    have e : (p ++ tmp ++ r).drop (p.length + 4 + r.length - 4) = r.drop (r.length - 4) := by
      have : p.length + 4 + r.length - 4 = (p ++ tmp).length + (r.length - 4) := by simp [tmp]; omega
      rw [this, ← List.drop_drop, List.drop_left]
    rw [e]
  · rw [decide_eq_false h4, Bool.false_and]
    match r, hr, h4 with
    | [a], _, _ =>
      unfold occAt
      have e : (p ++ tmp ++ [a]).drop (p.length + 4 + [a].length - 4) = [116, 109, 112, a] := by
        rw [List.append_assoc, show p.length + 4 + [a].length - 4 = p.length + 1 by simp, ← List.drop_drop, List.drop_left]; rfl
      rw [e]; simp [tmp, List.isPrefixOf]
    | [a, b], _, _ =>
      unfold occAt
      have e : (p ++ tmp ++ [a, b]).drop (p.length + 4 + [a, b].length - 4) = [109, 112, a, b] := by
        rw [List.append_assoc, show p.length + 4 + [a, b].length - 4 = p.length + 2 by simp, ← List.drop_drop, List.drop_left]; rfl
      rw [e]; simp [tmp, List.isPrefixOf]
    | [a, b, c], _, _ =>
      unfold occAt
      have e : (p ++ tmp ++ [a, b, c]).drop (p.length + 4 + [a, b, c].length - 4) = [112, a, b, c] := by
        rw [List.append_assoc, show p.length + 4 + [a, b, c].length - 4 = p.length + 3 by simp, ← List.drop_drop, List.drop_left]; rfl
      rw [e]; simp [tmp, List.isPrefixOf]
    | a :: b :: c :: d :: r, _, h => exact absurd (by simp) h

/-- THE FIRST LAW, plainly. -/
theorem law_hidden (b rest : List UInt8) (hb : b ≠ []) : isTmp (46 :: b ++ tmp ++ rest) = (!rest.isEmpty && !endsTmp rest) := by
  have hp : hasPrefix (46 :: b ++ tmp ++ rest) [46] = true := by simp [hasPrefix, List.isPrefixOf]
  have ho := occ_mid (46 :: b) rest
  obtain ⟨h1, h2⟩ := last_of _ _ ho
  have hbl : 1 ≤ b.length := by cases b with | nil => exact absurd rfl hb | cons => simp
  have h3 : decide (1 < lastIndex (46 :: b ++ tmp ++ rest) tmp) = true := by
    refine decide_eq_true ?_
    simp only [List.length_cons] at h1
    omega
  unfold isTmp
  rw [hp, h3, h2, Bool.true_and, Bool.true_and]
  cases rest with
  | nil =>
    have hN : (46 :: b ++ tmp ++ ([] : List UInt8)).length - 4 = (46 :: b).length := by simp [tmp]
    rw [hN, ho]
    rfl
  | cons x r =>
    rw [ends_tail _ _ (by simp)]
    rfl

/-- THE SECOND LAW, plainly. -/
theorem law_tail (s t : List UInt8) (ht : t ≠ []) (hd : ∀ c ∈ t, c ≠ 46) : isTmp (s ++ tmp ++ t) = (decide (2 ≤ s.length) && (s.head? == some 46)) := by
  have ho := occ_mid s t
  have hl : lastIndex (s ++ tmp ++ t) tmp = (s.length : Int) := by
    refine last_unique _ _ ho fun k hk => ?_
    cases h : occAt (s ++ tmp ++ t) tmp k with
    | false => rfl
    | true =>
      exfalso
      obtain ⟨r, hr⟩ := (occ_iff _ _).1 h
      obtain ⟨m, rfl⟩ : ∃ m, k = s.length + (m + 1) := ⟨k - s.length - 1, by omega⟩
      rw [List.append_assoc, ← List.drop_drop, List.drop_left] at hr
      have hm : (46 : UInt8) ∈ ([116, 109, 112] ++ t).drop m := by
        have e : (tmp ++ t).drop (m + 1) = ([116, 109, 112] ++ t).drop m := rfl
        rw [← e, hr]
        simp [tmp]
      have hm2 := List.mem_of_mem_drop hm
      rw [List.mem_append] at hm2
      rcases hm2 with h5 | h5
      · revert h5; decide
      · exact hd _ h5 rfl
  have htl : 1 ≤ t.length := by cases t with | nil => exact absurd rfl ht | cons => simp
  unfold isTmp
  rw [hl]
  have h2 : decide ((s.length : Int) + 4 < ((s ++ tmp ++ t).length : Int)) = true := by
    refine decide_eq_true ?_
    simp [tmp]; omega
  rw [h2, Bool.and_true]
  have h3 : decide (1 < (s.length : Int)) = decide (2 ≤ s.length) := by
    rw [Bool.eq_iff_iff]; simp; omega
  rw [h3]
  cases s with
  | nil => simp
  | cons x s =>
    have hp : hasPrefix (x :: s ++ tmp ++ t) [46] = ((x :: s).head? == some 46) := by
      simp only [hasPrefix, List.cons_append, List.isPrefixOf, Bool.and_true, List.head?_cons]
      rw [Bool.eq_iff_iff]; simp; exact eq_comm
    rw [hp, Bool.and_comm]
end Go.Proofs.Qxb6615052a
