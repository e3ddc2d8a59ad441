/-
  THE LAW 'FnFinishGivesMadeSpansAndPendingOpenOneTwice' (seat b6615596a): its walk out of contracts.
-/
import Derived.Test.Qxb6615596aFin
namespace Go.Proofs.Qxb6615596a
open Go.RowKit
set_option linter.unusedVariables false

/-- What finish gives besides the made spans. -/
def more (f : Bool) (s : Sp) : List Sp := if f then (if 0 < s.p then [s] else []) else []

/-- zzSpansAre, whatever the open span. -/
theorem are_any (got : Value) (a1 a2 a3 : Option Addr) (n c1 c2 c3 : Nat) (ls : List Sp) (f : Bool) (s : Sp) (w : World) (hn : n ≤ 4096) (hl : ls.length = n)
    (h1 : Iv w a1 (los ls)) (h2 : Iv w a2 (his ls)) (h3 : Iv w a3 (pends ls)) (hg : Sv w got (ls ++ more f s)) :
    Calls Try.prog 10 #[got, .slice a1 n c1, .slice a2 n c2, .slice a3 n c3, .bool f, .int .i64 s.lo, .int .i64 s.hi, .int .i64 s.p] w fun e w' => e = .returned (.bool true) ∧ Below w.heap.size w w' := by
  have plain : more f s = [] → ∃ ag cg, got = .slice ag n cg ∧ ∀ k (h : k < ls.length), ∃ g, ag = some ⟨g, 0, none⟩ ∧ g < w.heap.size ∧ w.cell? ⟨g, k * 5, none⟩ = some (.int .i64 ls[k].lo) ∧ w.cell? ⟨g, k * 5 + 1, none⟩ = some (.int .i64 ls[k].hi) ∧ w.cell? ⟨g, k * 5 + 2, none⟩ = some (.map none) ∧ w.cell? ⟨g, k * 5 + 3, none⟩ = some (.int .i64 ls[k].p) ∧ w.cell? ⟨g, k * 5 + 4, none⟩ = some (.slice none 0 0) := by
    intro e
    rw [e, List.append_nil] at hg
    rcases hg with ⟨rfl, rfl⟩ | ⟨g, cap, rfl, hgl, hc⟩
    · exact ⟨none, 0, by rw [← hl]; rfl, fun k h => by simp at h⟩
    · exact ⟨_, cap, by rw [hl], fun k h => ⟨g, rfl, hgl, hc k h⟩⟩
  cases f with
  | false =>
    obtain ⟨ag, cg, rfl, hk⟩ := plain rfl
    exact are_no1 ag a1 a2 a3 n cg c1 c2 c3 ls s.lo s.hi s.p w hn hl h1 h2 h3 hk
  | true =>
    by_cases hp : 0 < s.p
    · have e : more true s = [s] := by simp [more, hp]
      rw [e] at hg
      rcases hg with ⟨_, h⟩ | ⟨g, cap, rfl, hgl, hc⟩
      · simp at h
      · have hk : ∀ k (h : k < ls.length), (ls ++ [s])[k]'(by rw [List.length_append]; omega) = ls[k] := fun k h => List.getElem_append_left h
        have hlast : (ls ++ [s])[n]'(by simp; omega) = s := by simp [← hl]
        have ex := hc n (by simp; omega)
        rw [hlast] at ex
        rw [show (ls ++ [s]).length = n + 1 by simp; omega]
        exact are_yes (some ⟨g, 0, none⟩) a1 a2 a3 n cap c1 c2 c3 ls g s.lo s.hi s.p w hn hl hp h1 h2 h3 (fun k h => ⟨g, rfl, hgl, by have := hc k (by rw [List.length_append]; omega); rw [hk k h] at this; exact this⟩) rfl hgl ex.1 ex.2.1 ex.2.2.1 ex.2.2.2.1 ex.2.2.2.2
    · obtain ⟨ag, cg, rfl, hk⟩ := plain (by simp [more, hp])
      exact are_no2 ag a1 a2 a3 n cg c1 c2 c3 ls s.lo s.hi s.p w hn hl hp h1 h2 h3 hk

/-- The first ZZfinish, behind ZZnewSpanBuilder, whatever the open span. -/
theorem fin_any (g n : Nat) (sv ov : Value) (ls : List Sp) (f : Bool) (s : Sp) (w : World) (hst : St w g sv ov) (hown : w.ownsRow (g + 1) 47 5 sv n (flat ls)) (hg : g + 1 ≤ w.heap.size) (hn : n ≤ 4096)
    (hov : (f = false ∧ ov = .pointer none) ∨ (f = true ∧ ∃ o, ov = .pointer (some ⟨o, 0, none⟩) ∧ SpAt w o s ∧ sv.ownBlock ≠ some o)) :
    Calls Try.prog 9 #[.pointer (some ⟨g, 0, none⟩)] w fun e w' => ∃ sv', e = .returned sv' ∧ ∃ n', St w' g sv' (.pointer none) ∧ w'.ownsRow (g + 1) 47 5 sv' n' (flat (ls ++ more f s)) ∧ Below g w w' := by
  rcases hov with ⟨rfl, rfl⟩ | ⟨rfl, o, rfl, hs, ho⟩
  · refine (fin_nil g n sv (flat ls) w hst hown).mono ?_
    rintro e w' ⟨sv', rfl, rfl, h1, h2, h3⟩
    refine ⟨_, rfl, n, h1, ?_, h3⟩
    simpa [more] using h2
  · exact fin_open g o n sv ls s w hst hs hown hg ho hn

theorem zz_any (a1 a2 a3 : Option Addr) (n1 c1 n2 c2 n3 c3 : Nat) (x4 x5 x6 x7 : Value) (w : World) (m1 : n1 ≤ 9223372036854775807) (m2 : n2 ≤ 9223372036854775807) (m3 : n3 ≤ 9223372036854775807) :
    Calls Try.prog 7 #[.slice a1 n1 c1, .slice a2 n2 c2, .slice a3 n3 c3, x4, x5, x6, x7] w fun e w' => (∃ r, e = .returned (.bool r)) ∧ w' = w := by
  go_enter Try.func7, Try.ntmps7
  go_wp2
  all_goals
    go_ret
    exact ⟨⟨_, rfl⟩, rfl⟩
theorem zz_small (a1 a2 a3 : Option Addr) (n c1 c2 c3 : Nat) (x4 x5 x6 x7 : Value) (w : World) (m1 : n ≤ 4096) :
    Calls Try.prog 7 #[.slice a1 n c1, .slice a2 n c2, .slice a3 n c3, x4, x5, x6, x7] w fun e w' => e = .returned (.bool true) ∧ w' = w := by
  go_enter Try.func7, Try.ntmps7
  go_wp2
  go_ret
  exact ⟨rfl, rfl⟩

/-- The lists are too long, or not of one length: true at once. -/
theorem law_early (a1 a2 a3 : Option Addr) (n1 c1 n2 c2 n3 c3 : Nat) (x4 x5 x6 x7 : Value) (w : World) (m1 : n1 ≤ 9223372036854775807) (m2 : n2 ≤ 9223372036854775807) (m3 : n3 ≤ 9223372036854775807) (h : ¬ (n1 ≤ 4096 ∧ n2 = n1 ∧ n3 = n1)) :
    Calls Try.prog 3 #[.slice a1 n1 c1, .slice a2 n2 c2, .slice a3 n3 c3, x4, x5, x6, x7] w fun e w' => e = .returned (.bool true) ∧ w' = w := by
  by_cases g1 : 4096 < n1
  · clear h
    go_enter Try.func3, Try.ntmps3
    go_wp2_with fail
    refine (zz_any a1 a2 a3 n1 c1 n2 c2 n3 c3 _ _ _ _ w m1 m2 m3).mono ?_
    rintro e w' ⟨⟨r, rfl⟩, rfl⟩
    cases r
    all_goals
      go_wp2
      go_ret
      exact ⟨rfl, rfl⟩
  by_cases g2 : 4096 < n2
  · clear h
    go_enter Try.func3, Try.ntmps3
    go_wp2_with fail
    refine (zz_any a1 a2 a3 n1 c1 n2 c2 n3 c3 _ _ _ _ w m1 m2 m3).mono ?_
    rintro e w' ⟨⟨r, rfl⟩, rfl⟩
    cases r
    all_goals
      go_wp2
      go_ret
      exact ⟨rfl, rfl⟩
  by_cases g3 : 4096 < n3
  · clear h
    go_enter Try.func3, Try.ntmps3
    go_wp2_with fail
    refine (zz_any a1 a2 a3 n1 c1 n2 c2 n3 c3 _ _ _ _ w m1 m2 m3).mono ?_
    rintro e w' ⟨⟨r, rfl⟩, rfl⟩
    cases r
    all_goals
      go_wp2
      go_ret
      exact ⟨rfl, rfl⟩
  by_cases g4 : n2 = n1
  · have hd2 : ((n2 : Int) != (n1 : Int)) = false := by simp; omega
    have hd3 : ((n3 : Int) != (n1 : Int)) = true := by simp; omega
    have HX := Lib.hid g4
    clear h g4
    go_enter Try.func3, Try.ntmps3
    go_wp2_with fail
    refine (zz_any a1 a2 a3 n1 c1 n2 c2 n3 c3 _ _ _ _ w m1 m2 m3).mono ?_
    rintro e w' ⟨⟨r, rfl⟩, rfl⟩
    cases r
    all_goals
      go_wp2
      go_ret
      exact ⟨rfl, rfl⟩
  · have hd2 : ((n2 : Int) != (n1 : Int)) = true := by simp; omega
    clear h g4
    go_enter Try.func3, Try.ntmps3
    go_wp2_with fail
    refine (zz_any a1 a2 a3 n1 c1 n2 c2 n3 c3 _ _ _ _ w m1 m2 m3).mono ?_
    rintro e w' ⟨⟨r, rfl⟩, rfl⟩
    cases r
    all_goals
      go_wp2
      go_ret
      exact ⟨rfl, rfl⟩
end Go.Proofs.Qxb6615596a
