/-
  cloneBytes, sameBytes, agree (seat b6614854aD).
-/
import Derived.Test.Qxb6614854aDoorLeaf
import Derived.Lib.Hide
namespace Go.Proofs.Qxb6614854aDoor
open Go.RowKit

/-- A row of bytes as cells. -/
def cs (l : List Int) : List Value := l.map (Value.int .u8)
theorem cs_length (l : List Int) : (cs l).length = l.length := by simp [cs]
theorem cs_get (l : List Int) (j : Nat) (h : j < l.length) : (cs l)[j]? = some (.int .u8 l[j]) := by simp [cs, h]

/-- WHAT A SLICE OF BYTES THAT THE CALL HAS MADE READS AS: nil and no byte; or the head of a block. -/
def Vw (w : World) (v : Value) (l : List Int) : Prop :=
  (v = .slice none 0 0 ∧ l = []) ∨
  ∃ g cap, v = .slice (some ⟨g, 0, none⟩) l.length cap ∧ l.length ≤ cap ∧ g < w.heap.size ∧ ∀ j (h : j < l.length), w.cell? ⟨g, j, none⟩ = some (.int .u8 l[j])

theorem Vw.on {w w' : World} {v : Value} {l : List Int} (h : Vw w v l) (hb : Below w.heap.size w w') : Vw w' v l := by
  rcases h with h | ⟨g, cap, rfl, h1, h2, h3⟩
  · exact .inl h
  · exact .inr ⟨g, cap, rfl, h1, by have := hb.size; omega, fun j hj => (hb.cell (p := ⟨g, j, none⟩) h2).trans (h3 j hj)⟩

theorem Vw.of_owns {w : World} {B : Nat} {v : Value} {n : Nat} {l : List Int} (h : w.ownsRow B 5 1 v n (cs l)) : Vw w v l ∧ l.length = n := by
  have hl : l.length = n := by have := h.1; rw [cs_length] at this; omega
  refine ⟨?_, hl⟩
  rcases h.2 with ⟨rfl, h0⟩ | ⟨g, cap, cur, rfl, hb, hg, hnc, hm, hs, ht⟩
  · refine .inl ⟨rfl, ?_⟩
    exact List.eq_nil_of_length_eq_zero (by omega)
  · refine .inr ⟨g, cap, by rw [hl], by omega, ?_, fun j hj => ?_⟩
    · rcases Nat.lt_or_ge g w.heap.size with h1 | h1
      · exact h1
      · rw [Array.getElem?_eq_none h1] at hg; cases hg
    · rw [h.cellAt j (by omega), cs_get l j hj]

def filled (zs : List Int) (n k : Nat) : List Value := cs (zs.take k) ++ List.replicate (n - k) (.int .u8 0)
theorem filled_zero (zs : List Int) (n : Nat) : filled zs n 0 = List.replicate n (.int .u8 0) := by simp [filled, cs]
theorem filled_full (zs : List Int) (n : Nat) : filled zs n n = cs (zs.take n) := by simp [filled]
theorem filled_step (zs : List Int) (n k : Nat) (h : k < n) (hz : n ≤ zs.length) : (filled zs n k).set k (.int .u8 (zs[k]'(by omega))) = filled zs n (k + 1) := by
  have hk : (cs (zs.take k)).length = k := by rw [cs_length, List.length_take]; omega
  unfold filled
  rw [List.set_append_right _ _ (by omega), hk, Nat.sub_self]
  have e1 : n - k = (n - (k + 1)) + 1 := by omega
  rw [e1, List.replicate_succ, List.set_cons_zero]
  have e2 : zs.take (k + 1) = zs.take k ++ [zs[k]'(by omega)] := by rw [List.take_succ_eq_append_getElem (by omega)]
  rw [e2]
  simp only [cs, List.map_append, List.map_cons, List.map_nil, List.append_assoc, List.cons_append, List.nil_append]
theorem filled_get (zs : List Int) (n k : Nat) (h : k < n) (hz : n ≤ zs.length) : (filled zs n k)[k]? = some (.int .u8 0) := by
  have hk : (cs (zs.take k)).length = k := by rw [cs_length, List.length_take]; omega
  unfold filled
  rw [List.getElem?_append_right (by omega), hk, Nat.sub_self]
  have e1 : n - k = (n - (k + 1)) + 1 := by omega
  rw [e1, List.replicate_succ]
  rfl

theorem clone_nil (w : World) : Calls Tryd.prog 6 #[.slice none 0 0] w fun e w' => e = .returned (.slice none 0 0) ∧ w' = w := by
  have hnil := fun (w : World) a n c => Lib.run_eql_slice_nil (P := Tryd.prog) w 22 5 a n c 0 0 Tryd.underlying22
  go_enter Tryd.func6, Tryd.ntmps6
  go_wp2
  go_ret
  exact ⟨rfl, rfl⟩

set_option maxHeartbeats 800000 in
theorem clone_some (a : Addr) (n c : Nat) (zs : List Int) (w : World) (hn : n ≤ 4194304) (hz : n ≤ zs.length) (hcell : ∀ j (h : j < n), w.cell? (a.add j) = some (.int .u8 (zs[j]'(by omega)))) (hlt : 0 < n → a.block < w.heap.size) :
    Calls Tryd.prog 6 #[.slice (some a) n c] w fun e w' => e = .returned (.slice (some ⟨w.heap.size, 0, none⟩) n n) ∧ w'.ownsRow w.heap.size 5 1 (.slice (some ⟨w.heap.size, 0, none⟩) n n) n (cs (zs.take n)) ∧ Below w.heap.size w w' := by
  have hnil := fun (w : World) a n c => Lib.run_eql_slice_nil (P := Tryd.prog) w 22 5 a n c 0 0 Tryd.underlying22
  obtain ⟨i0, hi, hz0, hz1, hz2⟩ := info_parts infoByte
  go_enter Tryd.func6, Tryd.ntmps6
  go_wp2_with (at_make; refine wpList_make_full _ rfl _ _ 22 rfl w.heap.size 5 i0 (.int .u8 0) 1 Tryd.underlying22 hi hz0 hz1 .i64 .i64 _ _ n rfl rfl rfl rfl ?c1 ?c2 ?c3 ?_)
  case c1 => rw [hz2]; omega
  case c2 => unfold maxLen; omega
  case c3 => exact Nat.le_refl _
  intro w1 hown1 hgrow1
  have hb1 : Below w.heap.size w w1 := (Below.refl _ _).grown hgrow1 (Nat.le_refl _) (fun k hk => by cases hk)
  rw [toList_madeCells_one, ← filled_zero zs n] at hown1
  go_wp2
  go_loopw [4] (fun i wr => ∃ k : Nat, k ≤ n ∧ i = .int .i64 k ∧ wr.ownsRow w.heap.size 5 1 (.slice (some ⟨w.heap.size, 0, none⟩) n n) n (filled zs n k) ∧ Below w.heap.size w wr) (fun i _ => n - (intOf i).toNat)
  case atStart => exact ⟨0, Nat.zero_le _, rfl, hown1, hb1⟩
  case round =>
    obtain ⟨k, hk, rfl, hown, hb⟩ := hrel
    by_cases hlt' : k < n
    · obtain ⟨b, off, sp⟩ := a
      have hc := hcell k hlt'
      have hsp : sp = none := by simpa [Addr.add] using World.cell?_spot (hcell 0 (by omega))
      subst hsp
      have hc1 : wr.cell? ⟨b, off + k, none⟩ = some (.int .u8 (zs[k]'(by omega))) := (hb.cell (p := ⟨b, off + k, none⟩) (hlt (by omega))).trans (by rw [Addr.add_lit] at hc; exact hc)
      have hc2 : wr.cell? ⟨w.heap.size, k, none⟩ = some (.int .u8 0) := by rw [hown.cellAt k (by omega)]; exact filled_get zs n k hlt' hz
      have hf2 : wr.frozen? ⟨w.heap.size, k, none⟩ = false := hown.frozenAt k
      have hst := (hown.stored k (.int .u8 (zs[k]'(by omega)))).1
      rw [filled_step zs n k hlt' hz] at hst
      have HS := Lib.hid hst
      have HB := Lib.hid (hb.setCell (p := ⟨w.heap.size, k, none⟩) (Nat.le_refl _) (.int .u8 (zs[k]'(by omega))))
      clear hst hown hcell hown1 hgrow1 hb1 hc
      go_wp2
      go_roundw
      case rel => exact ⟨k + 1, by omega, by go_num, HS.out, HB.out⟩
      case measure => simp [intOf]; omega
    · go_wp2
      go_ret
      obtain rfl : k = n := by omega
      rw [filled_full] at hown
      exact ⟨rfl, hown, hb⟩
end Go.Proofs.Qxb6614854aDoor
