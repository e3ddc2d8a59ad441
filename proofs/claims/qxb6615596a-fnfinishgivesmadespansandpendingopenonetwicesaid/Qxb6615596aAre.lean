/-
  zzSpansAre (seat b6615596a): at the spans that were made, and the open one where it pends, it answers true.
-/
import Derived.Test.Qxb6615596aBase
namespace Go.Proofs.Qxb6615596a
open Go.RowKit
set_option linter.unusedVariables false

/-- What a slice of integers of the call's own reads as: nil or not. -/
def Iv (w : World) (a : Option Addr) (l : List Int) : Prop := ∀ k (h : k < l.length), ∃ g, a = some ⟨g, 0, none⟩ ∧ g < w.heap.size ∧ w.cell? ⟨g, k, none⟩ = some (.int .i64 l[k])
theorem Iv.on {w w' : World} {a : Option Addr} {l : List Int} (h : Iv w a l) (hb : Below w.heap.size w w') : Iv w' a l := fun k hk => by
  obtain ⟨g, e, hg, hc⟩ := h k hk
  exact ⟨g, e, by have := hb.size; omega, (hb.cell (p := ⟨g, k, none⟩) hg).trans hc⟩

/-- The three lists of a list of spans. -/
def los (l : List Sp) : List Int := l.map Sp.lo
def his (l : List Sp) : List Int := l.map Sp.hi
def pends (l : List Sp) : List Int := l.map Sp.p

theorem below_on {N : Nat} {a b c : World} (h : Below N a b) (hN : N ≤ b.heap.size) (k : Below b.heap.size b c) : Below N a c := h.trans (k.mono hN)


set_option maxHeartbeats 3200000 in
set_option maxRecDepth 100000 in
theorem are_no1 (ag a1 a2 a3 : Option Addr) (n cg c1 c2 c3 : Nat) (ls : List Sp) (oLo oHi oPend : Int) (w : World) (hn : n ≤ 4096) (hl : ls.length = n) 
    (h1 : Iv w a1 (los ls)) (h2 : Iv w a2 (his ls)) (h3 : Iv w a3 (pends ls))
    (hg : ∀ k (h : k < ls.length), ∃ g, ag = some ⟨g, 0, none⟩ ∧ g < w.heap.size ∧ w.cell? ⟨g, k * 5, none⟩ = some (.int .i64 ls[k].lo) ∧ w.cell? ⟨g, k * 5 + 1, none⟩ = some (.int .i64 ls[k].hi) ∧ w.cell? ⟨g, k * 5 + 2, none⟩ = some (.map none) ∧ w.cell? ⟨g, k * 5 + 3, none⟩ = some (.int .i64 ls[k].p) ∧ w.cell? ⟨g, k * 5 + 4, none⟩ = some (.slice none 0 0)) :
    Calls Try.prog 10 #[.slice ag (n) cg, .slice a1 n c1, .slice a2 n c2, .slice a3 n c3, .bool false, .int .i64 oLo, .int .i64 oHi, .int .i64 oPend] w fun e w' => e = .returned (.bool true) ∧ Below w.heap.size w w' := by
  have HH := Lib.hid (And.intro h1 (And.intro h2 (And.intro h3 hg)))
  skip
  clear h1 h2 h3 hg
  go_enter Try.func10, Try.ntmps10
  go_wp2
  go_loopw [18] (fun i wr => ∃ k : Nat, k ≤ n ∧ i = .int .i64 k ∧ Below w.heap.size w wr) (fun i _ => n - (RowKit.intOf i).toNat)
  case atStart => exact ⟨0, Nat.zero_le _, rfl, Below.refl _ _⟩
  case round =>
    obtain ⟨k, hk, rfl, hb⟩ := hrel
    by_cases hlt : k < n
    · obtain ⟨g1, rfl, hg1, d1⟩ := HH.out.1 k (by simp [los]; omega)
      obtain ⟨g2, rfl, hg2, d2⟩ := HH.out.2.1 k (by simp [his]; omega)
      obtain ⟨g3, rfl, hg3, d3⟩ := HH.out.2.2.1 k (by simp [pends]; omega)
      obtain ⟨g, eg, hgl, f0, f1, f2, f3, f4⟩ := HH.out.2.2.2 k (by omega)
      have q1 : wr.cell? ⟨g1, k, none⟩ = some (.int .i64 (ls[k]'(by omega)).lo) := (hb.cell (p := ⟨g1, k, none⟩) hg1).trans (by rw [d1]; simp [los])
      have q2 : wr.cell? ⟨g2, k, none⟩ = some (.int .i64 (ls[k]'(by omega)).hi) := (hb.cell (p := ⟨g2, k, none⟩) hg2).trans (by rw [d2]; simp [his])
      have q3 : wr.cell? ⟨g3, k, none⟩ = some (.int .i64 (ls[k]'(by omega)).p) := (hb.cell (p := ⟨g3, k, none⟩) hg3).trans (by rw [d3]; simp [pends])
      have F := Lib.hid (And.intro ((hb.cell (p := ⟨g, k * 5, none⟩) hgl).trans f0) (And.intro ((hb.cell (p := ⟨g, k * 5 + 1, none⟩) hgl).trans f1) (And.intro ((hb.cell (p := ⟨g, k * 5 + 2, none⟩) hgl).trans f2) (And.intro ((hb.cell (p := ⟨g, k * 5 + 3, none⟩) hgl).trans f3) ((hb.cell (p := ⟨g, k * 5 + 4, none⟩) hgl).trans f4)))))
      clear d1 d2 d3 f0 f1 f2 f3 f4
      obtain ⟨sp, hsp⟩ : ∃ sp, sp = ls[k]'(by omega) := ⟨_, rfl⟩
      rw [← hsp] at q1 q2 q3 F
      clear hsp
      obtain ⟨lo, hi, pd⟩ := sp
      have b0 : (0 : Int) ≤ (k : Int) := by omega
      have b1 : (k : Int) < (n : Int) := by omega
      rw [eg]
      have hq1 := q1
      have hq2 := q2
      have hq3 := q3
      clear q1 q2 q3
      go_wp2_with fail
      refine (spanAt g (n) cg k lo hi pd _ (by omega) (by omega) F.out.1 F.out.2.1 F.out.2.2.1 F.out.2.2.2.1 F.out.2.2.2.2).mono ?_
      rintro e w2 ⟨rfl, hb2⟩
      have q1 : w2.cell? ⟨g1, k, none⟩ = some (.int .i64 lo) := (hb2.cell (p := ⟨g1, k, none⟩) (by have := hb.size; exact Nat.lt_of_lt_of_le hg1 this)).trans hq1
      have q2 : w2.cell? ⟨g2, k, none⟩ = some (.int .i64 hi) := (hb2.cell (p := ⟨g2, k, none⟩) (by have := hb.size; exact Nat.lt_of_lt_of_le hg2 this)).trans hq2
      have q3 : w2.cell? ⟨g3, k, none⟩ = some (.int .i64 pd) := (hb2.cell (p := ⟨g3, k, none⟩) (by have := hb.size; exact Nat.lt_of_lt_of_le hg3 this)).trans hq3
      have hb' := below_on hb hb.size hb2
      clear hq1 hq2 hq3 F hb2
      go_wp2
      go_roundw
      case rel => exact ⟨k + 1, by omega, by go_num, hb'⟩
      case measure => simp [RowKit.intOf]; omega
    · obtain rfl : k = n := by omega
      go_wp2
      go_ret
      exact ⟨rfl, hb⟩

set_option maxHeartbeats 3200000 in
set_option maxRecDepth 100000 in
theorem are_no2 (ag a1 a2 a3 : Option Addr) (n cg c1 c2 c3 : Nat) (ls : List Sp) (oLo oHi oPend : Int) (w : World) (hn : n ≤ 4096) (hl : ls.length = n) (hop : ¬ 0 < oPend)
    (h1 : Iv w a1 (los ls)) (h2 : Iv w a2 (his ls)) (h3 : Iv w a3 (pends ls))
    (hg : ∀ k (h : k < ls.length), ∃ g, ag = some ⟨g, 0, none⟩ ∧ g < w.heap.size ∧ w.cell? ⟨g, k * 5, none⟩ = some (.int .i64 ls[k].lo) ∧ w.cell? ⟨g, k * 5 + 1, none⟩ = some (.int .i64 ls[k].hi) ∧ w.cell? ⟨g, k * 5 + 2, none⟩ = some (.map none) ∧ w.cell? ⟨g, k * 5 + 3, none⟩ = some (.int .i64 ls[k].p) ∧ w.cell? ⟨g, k * 5 + 4, none⟩ = some (.slice none 0 0)) :
    Calls Try.prog 10 #[.slice ag (n) cg, .slice a1 n c1, .slice a2 n c2, .slice a3 n c3, .bool true, .int .i64 oLo, .int .i64 oHi, .int .i64 oPend] w fun e w' => e = .returned (.bool true) ∧ Below w.heap.size w w' := by
  have HH := Lib.hid (And.intro h1 (And.intro h2 (And.intro h3 hg)))
  skip
  clear h1 h2 h3 hg
  go_enter Try.func10, Try.ntmps10
  go_wp2
  go_loopw [18] (fun i wr => ∃ k : Nat, k ≤ n ∧ i = .int .i64 k ∧ Below w.heap.size w wr) (fun i _ => n - (RowKit.intOf i).toNat)
  case atStart => exact ⟨0, Nat.zero_le _, rfl, Below.refl _ _⟩
  case round =>
    obtain ⟨k, hk, rfl, hb⟩ := hrel
    by_cases hlt : k < n
    · obtain ⟨g1, rfl, hg1, d1⟩ := HH.out.1 k (by simp [los]; omega)
      obtain ⟨g2, rfl, hg2, d2⟩ := HH.out.2.1 k (by simp [his]; omega)
      obtain ⟨g3, rfl, hg3, d3⟩ := HH.out.2.2.1 k (by simp [pends]; omega)
      obtain ⟨g, eg, hgl, f0, f1, f2, f3, f4⟩ := HH.out.2.2.2 k (by omega)
      have q1 : wr.cell? ⟨g1, k, none⟩ = some (.int .i64 (ls[k]'(by omega)).lo) := (hb.cell (p := ⟨g1, k, none⟩) hg1).trans (by rw [d1]; simp [los])
      have q2 : wr.cell? ⟨g2, k, none⟩ = some (.int .i64 (ls[k]'(by omega)).hi) := (hb.cell (p := ⟨g2, k, none⟩) hg2).trans (by rw [d2]; simp [his])
      have q3 : wr.cell? ⟨g3, k, none⟩ = some (.int .i64 (ls[k]'(by omega)).p) := (hb.cell (p := ⟨g3, k, none⟩) hg3).trans (by rw [d3]; simp [pends])
      have F := Lib.hid (And.intro ((hb.cell (p := ⟨g, k * 5, none⟩) hgl).trans f0) (And.intro ((hb.cell (p := ⟨g, k * 5 + 1, none⟩) hgl).trans f1) (And.intro ((hb.cell (p := ⟨g, k * 5 + 2, none⟩) hgl).trans f2) (And.intro ((hb.cell (p := ⟨g, k * 5 + 3, none⟩) hgl).trans f3) ((hb.cell (p := ⟨g, k * 5 + 4, none⟩) hgl).trans f4)))))
      clear d1 d2 d3 f0 f1 f2 f3 f4
      obtain ⟨sp, hsp⟩ : ∃ sp, sp = ls[k]'(by omega) := ⟨_, rfl⟩
      rw [← hsp] at q1 q2 q3 F
      clear hsp
      obtain ⟨lo, hi, pd⟩ := sp
      have b0 : (0 : Int) ≤ (k : Int) := by omega
      have b1 : (k : Int) < (n : Int) := by omega
      rw [eg]
      have hq1 := q1
      have hq2 := q2
      have hq3 := q3
      clear q1 q2 q3
      go_wp2_with fail
      refine (spanAt g (n) cg k lo hi pd _ (by omega) (by omega) F.out.1 F.out.2.1 F.out.2.2.1 F.out.2.2.2.1 F.out.2.2.2.2).mono ?_
      rintro e w2 ⟨rfl, hb2⟩
      have q1 : w2.cell? ⟨g1, k, none⟩ = some (.int .i64 lo) := (hb2.cell (p := ⟨g1, k, none⟩) (by have := hb.size; exact Nat.lt_of_lt_of_le hg1 this)).trans hq1
      have q2 : w2.cell? ⟨g2, k, none⟩ = some (.int .i64 hi) := (hb2.cell (p := ⟨g2, k, none⟩) (by have := hb.size; exact Nat.lt_of_lt_of_le hg2 this)).trans hq2
      have q3 : w2.cell? ⟨g3, k, none⟩ = some (.int .i64 pd) := (hb2.cell (p := ⟨g3, k, none⟩) (by have := hb.size; exact Nat.lt_of_lt_of_le hg3 this)).trans hq3
      have hb' := below_on hb hb.size hb2
      clear hq1 hq2 hq3 F hb2
      go_wp2
      go_roundw
      case rel => exact ⟨k + 1, by omega, by go_num, hb'⟩
      case measure => simp [RowKit.intOf]; omega
    · obtain rfl : k = n := by omega
      go_wp2
      go_ret
      exact ⟨rfl, hb⟩

set_option maxHeartbeats 3200000 in
set_option maxRecDepth 100000 in
theorem are_yes (ag a1 a2 a3 : Option Addr) (n cg c1 c2 c3 : Nat) (ls : List Sp) (gg : Nat) (oLo oHi oPend : Int) (w : World) (hn : n ≤ 4096) (hl : ls.length = n) (hop : 0 < oPend)
    (h1 : Iv w a1 (los ls)) (h2 : Iv w a2 (his ls)) (h3 : Iv w a3 (pends ls))
    (hg : ∀ k (h : k < ls.length), ∃ g, ag = some ⟨g, 0, none⟩ ∧ g < w.heap.size ∧ w.cell? ⟨g, k * 5, none⟩ = some (.int .i64 ls[k].lo) ∧ w.cell? ⟨g, k * 5 + 1, none⟩ = some (.int .i64 ls[k].hi) ∧ w.cell? ⟨g, k * 5 + 2, none⟩ = some (.map none) ∧ w.cell? ⟨g, k * 5 + 3, none⟩ = some (.int .i64 ls[k].p) ∧ w.cell? ⟨g, k * 5 + 4, none⟩ = some (.slice none 0 0))
    (hag : ag = some ⟨gg, 0, none⟩) (hgg : gg < w.heap.size) (e0 : w.cell? ⟨gg, n * 5, none⟩ = some (.int .i64 oLo)) (e1 : w.cell? ⟨gg, n * 5 + 1, none⟩ = some (.int .i64 oHi)) (e2 : w.cell? ⟨gg, n * 5 + 2, none⟩ = some (.map none)) (e3 : w.cell? ⟨gg, n * 5 + 3, none⟩ = some (.int .i64 oPend)) (e4 : w.cell? ⟨gg, n * 5 + 4, none⟩ = some (.slice none 0 0)) :
    Calls Try.prog 10 #[.slice ag (n + 1) cg, .slice a1 n c1, .slice a2 n c2, .slice a3 n c3, .bool true, .int .i64 oLo, .int .i64 oHi, .int .i64 oPend] w fun e w' => e = .returned (.bool true) ∧ Below w.heap.size w w' := by
  have HH := Lib.hid (And.intro h1 (And.intro h2 (And.intro h3 hg)))
  have HE := Lib.hid (And.intro e0 (And.intro e1 (And.intro e2 (And.intro e3 e4))))
  clear h1 h2 h3 hg e0 e1 e2 e3 e4
  go_enter Try.func10, Try.ntmps10
  go_wp2
  go_loopw [18] (fun i wr => ∃ k : Nat, k ≤ n ∧ i = .int .i64 k ∧ Below w.heap.size w wr) (fun i _ => n - (RowKit.intOf i).toNat)
  case atStart => exact ⟨0, Nat.zero_le _, rfl, Below.refl _ _⟩
  case round =>
    obtain ⟨k, hk, rfl, hb⟩ := hrel
    by_cases hlt : k < n
    · obtain ⟨g1, rfl, hg1, d1⟩ := HH.out.1 k (by simp [los]; omega)
      obtain ⟨g2, rfl, hg2, d2⟩ := HH.out.2.1 k (by simp [his]; omega)
      obtain ⟨g3, rfl, hg3, d3⟩ := HH.out.2.2.1 k (by simp [pends]; omega)
      obtain ⟨g, eg, hgl, f0, f1, f2, f3, f4⟩ := HH.out.2.2.2 k (by omega)
      have q1 : wr.cell? ⟨g1, k, none⟩ = some (.int .i64 (ls[k]'(by omega)).lo) := (hb.cell (p := ⟨g1, k, none⟩) hg1).trans (by rw [d1]; simp [los])
      have q2 : wr.cell? ⟨g2, k, none⟩ = some (.int .i64 (ls[k]'(by omega)).hi) := (hb.cell (p := ⟨g2, k, none⟩) hg2).trans (by rw [d2]; simp [his])
      have q3 : wr.cell? ⟨g3, k, none⟩ = some (.int .i64 (ls[k]'(by omega)).p) := (hb.cell (p := ⟨g3, k, none⟩) hg3).trans (by rw [d3]; simp [pends])
      have F := Lib.hid (And.intro ((hb.cell (p := ⟨g, k * 5, none⟩) hgl).trans f0) (And.intro ((hb.cell (p := ⟨g, k * 5 + 1, none⟩) hgl).trans f1) (And.intro ((hb.cell (p := ⟨g, k * 5 + 2, none⟩) hgl).trans f2) (And.intro ((hb.cell (p := ⟨g, k * 5 + 3, none⟩) hgl).trans f3) ((hb.cell (p := ⟨g, k * 5 + 4, none⟩) hgl).trans f4)))))
      clear d1 d2 d3 f0 f1 f2 f3 f4
      obtain ⟨sp, hsp⟩ : ∃ sp, sp = ls[k]'(by omega) := ⟨_, rfl⟩
      rw [← hsp] at q1 q2 q3 F
      clear hsp
      obtain ⟨lo, hi, pd⟩ := sp
      have b0 : (0 : Int) ≤ (k : Int) := by omega
      have b1 : (k : Int) < (n : Int) := by omega
      rw [eg]
      have hq1 := q1
      have hq2 := q2
      have hq3 := q3
      clear q1 q2 q3
      go_wp2_with fail
      refine (spanAt g (n + 1) cg k lo hi pd _ (by omega) (by omega) F.out.1 F.out.2.1 F.out.2.2.1 F.out.2.2.2.1 F.out.2.2.2.2).mono ?_
      rintro e w2 ⟨rfl, hb2⟩
      have q1 : w2.cell? ⟨g1, k, none⟩ = some (.int .i64 lo) := (hb2.cell (p := ⟨g1, k, none⟩) (by have := hb.size; exact Nat.lt_of_lt_of_le hg1 this)).trans hq1
      have q2 : w2.cell? ⟨g2, k, none⟩ = some (.int .i64 hi) := (hb2.cell (p := ⟨g2, k, none⟩) (by have := hb.size; exact Nat.lt_of_lt_of_le hg2 this)).trans hq2
      have q3 : w2.cell? ⟨g3, k, none⟩ = some (.int .i64 pd) := (hb2.cell (p := ⟨g3, k, none⟩) (by have := hb.size; exact Nat.lt_of_lt_of_le hg3 this)).trans hq3
      have hb' := below_on hb hb.size hb2
      clear hq1 hq2 hq3 F hb2
      go_wp2
      go_roundw
      case rel => exact ⟨k + 1, by omega, by go_num, hb'⟩
      case measure => simp [RowKit.intOf]; omega
    · obtain rfl : k = n := by omega
      rw [hag]
      have hl2 := fun (p : Addr) (h : p.block = gg) => hb.cell (p := p) (by rw [h]; exact hgg)
      go_wp2_with fail
      refine (spanAt gg (k + 1) cg k oLo oHi oPend _ (by omega) (by omega) ((hl2 _ rfl).trans HE.out.1) ((hl2 _ rfl).trans HE.out.2.1) ((hl2 _ rfl).trans HE.out.2.2.1) ((hl2 _ rfl).trans HE.out.2.2.2.1) ((hl2 _ rfl).trans HE.out.2.2.2.2)).mono ?_
      rintro e w2 ⟨rfl, hb2⟩
      clear hl2
      go_wp2
      go_ret
      exact ⟨rfl, below_on hb hb.size hb2⟩
end Go.Proofs.Qxb6615596a
