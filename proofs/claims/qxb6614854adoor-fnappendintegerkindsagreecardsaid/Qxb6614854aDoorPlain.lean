/-
  PLAIN LISTS AND NUMBERS (seat b6614854aD): the decimal numeral read back, digit by digit. No Go in sight.
-/
import Derived.Lib.ItoaNum
namespace Go.Proofs.Qxb6614854aDoor
open Go.Lib

/-- The number that the first k of nd digits spell. -/
def pre (u nd k : Nat) : Nat := u / 10 ^ (nd - k)
/-- The digit at place k (from the left, of nd). -/
def dgt (u nd k : Nat) : Nat := u / 10 ^ (nd - 1 - k) % 10

theorem pre_zero (u : Nat) : pre u (nDigits u) 0 = 0 := by
  unfold pre
  exact Nat.div_eq_of_lt (by simpa using lt_pow_nDigits u)
theorem pre_full (u nd : Nat) : pre u nd nd = u := by simp [pre]
theorem dgt_lt (u nd k : Nat) : dgt u nd k < 10 := Nat.mod_lt _ (by decide)
theorem pre_succ (u nd k : Nat) (h : k < nd) : pre u nd (k + 1) = pre u nd k * 10 + dgt u nd k := by
  unfold pre dgt
  have e1 : nd - k = (nd - 1 - k) + 1 := by omega
  have e2 : nd - (k + 1) = nd - 1 - k := by omega
  rw [e1, e2, Nat.pow_succ, ← Nat.div_div_eq_div_mul]
  omega
theorem pre_le (u nd k : Nat) : pre u nd k ≤ u := Nat.div_le_self _ _

/-- The first digit of a number that is not nought is not '0'. -/
theorem dgt_first (u : Nat) (h : 1 ≤ u) : 1 ≤ dgt u (nDigits u) 0 := by
  have hp : pre u (nDigits u) 1 = pre u (nDigits u) 0 * 10 + dgt u (nDigits u) 0 := pre_succ u (nDigits u) 0 (nDigits_pos u)
  rw [pre_zero] at hp
  have h10 : 10 ^ (nDigits u - 1) ≤ u := by
    by_cases hs : u < 10
    · rw [nDigits_small hs]; simpa using h
    · have : ∀ v : Nat, 1 ≤ v → 10 ^ (nDigits v - 1) ≤ v := by
        intro v
        induction v using Nat.strongRecOn with
        | _ v ih =>
          intro hv
          by_cases h' : v < 10
          · rw [nDigits_small h']; simpa using hv
          · rw [nDigits_big h', Nat.add_sub_cancel]
            have := ih (v / 10) (by omega) (by omega)
            obtain ⟨m, hm⟩ : ∃ m, nDigits (v / 10) = m + 1 := ⟨nDigits (v / 10) - 1, by have := nDigits_pos (v / 10); omega⟩
            rw [hm, Nat.add_sub_cancel] at this
            rw [hm, Nat.pow_succ]
            omega
      exact this u h
  have h2 : 1 ≤ pre u (nDigits u) 1 := by
    unfold pre
    exact (Nat.one_le_div_iff (Nat.pos_of_ne_zero (by simp))).2 h10
  omega

/-- The numeral, place for place, as numbers. -/
theorem dec_get (u k : Nat) (h : k < (decDigits u).length) : (((decDigits u)[k]).toNat : Int) = 48 + (dgt u (nDigits u) k : Int) := by
  have hl := decDigits_length u
  have h' : k < nDigits u := by omega
  have e : (decDigits u)[k] = dg u (nDigits u - 1 - k) := by
    have := decDigits_eq u
    have e2 : (decDigits u)[k]? = some (dg u (nDigits u - 1 - k)) := by rw [this]; simp [h']
    rw [List.getElem?_eq_getElem h] at e2
    exact Option.some.inj e2
  rw [e]
  have hd := dgt_lt u (nDigits u) k
  unfold dg dgt at *
  rw [UInt8.toNat_ofNat']
  omega
end Go.Proofs.Qxb6614854aDoor
