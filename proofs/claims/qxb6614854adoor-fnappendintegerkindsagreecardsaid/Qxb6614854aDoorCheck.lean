/-
  checkAppend (seat b6614854aD): at a row, the row with a numeral behind it, and the numeral alone it answers true.
-/
import Derived.Test.Qxb6614854aDoorRead
import Derived.WalkSmall
namespace Go.Proofs.Qxb6614854aDoor
open Go.RowKit Go.Lib

/-- The text of a number: a '-' where it is negative, then the digits of its magnitude. -/
def txt (neg : Bool) (u : Nat) : List Int := (if neg then [45] else []) ++ (decDigits u).map (fun b => (b.toNat : Int))

theorem txt_pos (neg : Bool) (u : Nat) : 0 < (txt neg u).length := by
  have := nDigits_pos u
  simp [txt, decDigits_length]; omega

theorem nd20 (u : Nat) (hu : u ≤ 18446744073709551615) : nDigits u ≤ 20 := by
  by_cases h : 1 ≤ u
  · have := numDigits_eq u h (by omega)
    split at this <;> omega
  · rw [nDigits_small (by omega)]; omega

theorem txt_len (neg : Bool) (u : Nat) (hu : u ≤ 18446744073709551615) : (txt neg u).length ≤ 21 := by
  have := nd20 u hu
  cases neg <;> simp [txt, decDigits_length] <;> omega

theorem read_txt (v : Value) (neg : Bool) (u : Nat) (w : World) (hu : u ≤ 18446744073709551615) (hneg : neg = true → 1 ≤ u) (hv : Vw w v (txt neg u)) :
    Calls Tryd.prog 19 #[v] w fun e w' => e = .returned (.tuple #[.bool neg, .int .u64 (u : Int), .bool true]) ∧ w' = w := by
  have hp := txt_pos neg u
  rcases hv with ⟨_, h⟩ | ⟨g, cap, rfl, hcap, hg, hc⟩
  · rw [h] at hp; simp at hp
  have hnd := nDigits_pos u
  have h20 := nd20 u hu
  cases neg
  · have hl : (txt false u).length = nDigits u := by simp [txt, decDigits_length]
    have hd : ∀ k, k < nDigits u → w.cell? ⟨g, k, none⟩ = some (.int .u8 (48 + (dgt u (nDigits u) k : Int))) := by
      intro k hk
      rw [hc k (by omega), ← dec_get u k (by rw [decDigits_length]; exact hk)]
      simp [txt]
    rw [hl]
    by_cases h0 : u = 0
    · subst h0
      have e1 : nDigits 0 = 1 := nDigits_small (by omega)
      have := hd 0 (by omega)
      rw [e1] at this ⊢
      exact read_zero g cap w (by simpa [dgt] using this)
    · exact read_pos g cap u _ w hu hnd h20 (pre_zero u) (dgt_first u (by omega)) hd
  · have hl : (txt true u).length = nDigits u + 1 := by simp [txt, decDigits_length]
    have hm : w.cell? ⟨g, 0, none⟩ = some (.int .u8 45) := by rw [hc 0 (by omega)]; simp [txt]
    have hd : ∀ k, k < nDigits u → w.cell? ⟨g, k + 1, none⟩ = some (.int .u8 (48 + (dgt u (nDigits u) k : Int))) := by
      intro k hk
      rw [hc (k + 1) (by omega), ← dec_get u k (by rw [decDigits_length]; exact hk)]
      simp [txt]
    rw [hl]
    exact read_neg g cap u _ w hu hnd h20 (pre_zero u) (dgt_first u (hneg rfl)) hm hd

set_option maxHeartbeats 1600000 in
theorem check_core (aw : Option Addr) (n1 c1 g2 c2 g3 c3 m : Nat) (l t : List Int) (neg : Bool) (u : Nat) (w : World) (hn : n1 ≤ 4194304) (hm : m ≤ 21) (hl : l.length = n1) (ht : t.length = m)
    (hw : ∀ k (h : k < l.length), ∃ g, aw = some ⟨g, 0, none⟩ ∧ g < w.heap.size ∧ w.cell? ⟨g, k, none⟩ = some (.int .u8 l[k]))
    (h2 : g2 < w.heap.size) (h3 : g3 < w.heap.size)
    (hc2 : ∀ k (h : k < (l ++ t).length), w.cell? ⟨g2, k, none⟩ = some (.int .u8 (l ++ t)[k])) (hc3 : ∀ k (h : k < t.length), w.cell? ⟨g3, k, none⟩ = some (.int .u8 t[k]))
    (hread : ∀ w', Below w.heap.size w w' → Calls Tryd.prog 19 #[.slice (some ⟨g3, 0, none⟩) m c3] w' fun e w'' => e = .returned (.tuple #[.bool neg, .int .u64 (u : Int), .bool true]) ∧ w'' = w') :
    Calls Tryd.prog 8 #[.slice aw n1 c1, .slice (some ⟨g2, 0, none⟩) (n1 + m) c2, .bool true, .slice (some ⟨g3, 0, none⟩) m c3, .bool true, .bool neg, .int .u64 (u : Int)] w fun e w' => e = .returned (.bool true) ∧ Below w.heap.size w w' := by
  have HR := Lib.hid hread
  clear hread
  go_enter Tryd.func8, Tryd.ntmps8
  go_wp2
  go_loopw [15] (fun i wr => ∃ k : Nat, k ≤ n1 ∧ i = .int .i64 k ∧ Below w.heap.size w wr) (fun i _ => n1 - (intOf i).toNat)
  case atStart => exact ⟨0, Nat.zero_le _, rfl, Below.refl _ _⟩
  case round =>
    obtain ⟨k, hk, rfl, hb⟩ := hrel
    by_cases hlt : k < n1
    · obtain ⟨g1, rfl, hg1, hcw⟩ := hw k (by omega)
      have d1 : wr.cell? ⟨g1, k, none⟩ = some (.int .u8 (l[k]'(by omega))) := (hb.cell (p := ⟨g1, k, none⟩) hg1).trans hcw
      have d2 : wr.cell? ⟨g2, k, none⟩ = some (.int .u8 (l[k]'(by omega))) := by
        rw [hb.cell (p := ⟨g2, k, none⟩) h2, hc2 k (by rw [List.length_append]; omega), List.getElem_append_left (by omega)]
      have b1 : (k : Int) < (n1 : Int) := by omega
      have b2 : (k : Int) < (n1 : Int) + (m : Int) := by omega
      have b0 : (0 : Int) ≤ (k : Int) := by omega
      clear hw hcw hc2 hc3
      go_wp2
      go_quiet (fail)
      go_wp2
      go_roundw
      case rel => exact ⟨k + 1, by omega, by go_num, below_drewN hb _⟩
      case measure => simp [intOf]; omega
    · obtain rfl : k = n1 := by omega
      clear hw
      go_wp2
      obtain ⟨wo, hwo⟩ : ∃ wo : World, wo = wr := ⟨_, rfl⟩
      rw [← hwo] at hb ⊢
      clear hwo
      go_loopw [16] (fun i wr => ∃ j : Nat, j ≤ m ∧ i = .int .i64 j ∧ Below w.heap.size w wr) (fun i _ => m - (intOf i).toNat)
      case atStart => exact ⟨0, Nat.zero_le _, rfl, hb⟩
      case round =>
        obtain ⟨j, hj, rfl, hb'⟩ := hrel
        by_cases hlt2 : j < m
        · have d3 : wr.cell? ⟨g3, j, none⟩ = some (.int .u8 (t[j]'(by omega))) := (hb'.cell (p := ⟨g3, j, none⟩) h3).trans (hc3 j (by omega))
          have d2 : wr.cell? ⟨g2, k + j, none⟩ = some (.int .u8 (t[j]'(by omega))) := by
            rw [hb'.cell (p := ⟨g2, k + j, none⟩) h2, hc2 (k + j) (by rw [List.length_append]; omega), List.getElem_append_right (by omega)]
            simp [hl]
          have b1 : (j : Int) < (m : Int) := by omega
          have b2 : (k : Int) + (j : Int) < (k : Int) + (m : Int) := by omega
          have b0 : (0 : Int) ≤ (j : Int) := by omega
          have b3 : (0 : Int) ≤ (k : Int) + (j : Int) := by omega
          clear hc2 hc3
          go_wp2
          go_quiet (fail)
          go_wp2
          go_roundw
          case rel => exact ⟨j + 1, by omega, by go_num, below_drewN hb' _⟩
          case measure => simp [intOf]; omega
        · obtain rfl : j = m := by omega
          clear hc2 hc3
          go_wp2_with (go_at_call 19; refine (HR.out _ hb').mono ?_; rintro e w2 ⟨rfl, rfl⟩)
          go_ret
          exact ⟨rfl, hb'⟩

theorem check_any (vw vo va : Value) (l : List Int) (neg : Bool) (u : Nat) (w : World) (hu : u ≤ 18446744073709551615) (hneg : neg = true → 1 ≤ u) (hl : l.length ≤ 4194304)
    (h1 : Vw w vw l) (h2 : Vw w vo (l ++ txt neg u)) (h3 : Vw w va (txt neg u)) :
    Calls Tryd.prog 8 #[vw, vo, .bool true, va, .bool true, .bool neg, .int .u64 (u : Int)] w fun e w' => e = .returned (.bool true) ∧ Below w.heap.size w w' := by
  have hp := txt_pos neg u
  have h3' := h3
  rcases h2 with ⟨_, h⟩ | ⟨g2, c2, rfl, hcap2, hg2, hc2⟩
  · have := congrArg List.length h; rw [List.length_append, List.length_nil] at this; omega
  rcases h3 with ⟨_, h⟩ | ⟨g3, c3, rfl, hcap3, hg3, hc3⟩
  · rw [h] at hp; simp at hp
  have hread : ∀ w', Below w.heap.size w w' → Calls Tryd.prog 19 #[.slice (some ⟨g3, 0, none⟩) (txt neg u).length c3] w' fun e w'' => e = .returned (.tuple #[.bool neg, .int .u64 (u : Int), .bool true]) ∧ w'' = w' :=
    fun w' hb => read_txt _ neg u w' hu hneg (h3'.on hb)
  have ht := txt_len neg u hu
  rw [List.length_append]
  rcases h1 with ⟨rfl, rfl⟩ | ⟨g1, c1, rfl, hcap1, hg1, hc1⟩
  · exact check_core none 0 0 g2 c2 g3 c3 _ [] _ neg u w (by omega) ht rfl rfl (fun k h => by simp at h) hg2 hg3 hc2 hc3 hread
  · exact check_core _ l.length c1 g2 c2 g3 c3 _ l _ neg u w hl ht rfl rfl (fun k h => ⟨g1, rfl, hg1, hc1 k h⟩) hg2 hg3 hc2 hc3 hread

end Go.Proofs.Qxb6614854aDoor
