/-
  finish, ZZfinish (seat b6615596a), and the first half of ZZnewSpanBuilder's memory.
-/
import Derived.Test.Qxb6615596aCut
namespace Go.Proofs.Qxb6615596a
open Go.RowKit
set_option linter.unusedVariables false

/-- The two cells of a builder that matter: its spans, its open span. -/
structure St (w : World) (g : Nat) (sv ov : Value) : Prop where
  c3 : w.cell? ⟨g, 3, none⟩ = some sv
  f3 : w.frozen? ⟨g, 3, none⟩ = false
  c4 : w.cell? ⟨g, 4, none⟩ = some ov
  f4 : w.frozen? ⟨g, 4, none⟩ = false

theorem St.set4 {w : World} {g : Nat} {sv ov : Value} (h : St w g sv ov) (v : Value) : St (w.setCell ⟨g, 4, none⟩ v) g sv v :=
  ⟨(World.cell?_setCell_other w _ _ _ (by simp)).trans h.c3, by rw [World.frozen?_setCell]; exact h.f3, World.cell?_setCell_same w _ _ h.c4, by rw [World.frozen?_setCell]; exact h.f4⟩
theorem St.set3 {w : World} {g : Nat} {sv ov : Value} (h : St w g sv ov) (v : Value) : St (w.setCell ⟨g, 3, none⟩ v) g v ov :=
  ⟨World.cell?_setCell_same w _ _ h.c3, by rw [World.frozen?_setCell]; exact h.f3, (World.cell?_setCell_other w _ _ _ (by simp)).trans h.c4, by rw [World.frozen?_setCell]; exact h.f4⟩

/-- A span's five cells at the head of block o. -/
def SpAt (w : World) (o : Nat) (s : Sp) : Prop :=
  w.cell? ⟨o, 0, none⟩ = some (.int .i64 s.lo) ∧ w.cell? ⟨o, 1, none⟩ = some (.int .i64 s.hi) ∧ w.cell? ⟨o, 2, none⟩ = some (.map none) ∧ w.cell? ⟨o, 3, none⟩ = some (.int .i64 s.p) ∧ w.cell? ⟨o, 4, none⟩ = some (.slice none 0 0)

theorem own_ge {w : World} {B : Nat} {sv : Value} {n : Nat} {xs : List Value} (h : w.ownsRow B 47 5 sv n xs) : ∀ k, sv.ownBlock = some k → B ≤ k := fun k hk => (h.lt k hk).1

/-- cut, whatever the open span: behind it the spans and, where it pended, the open one. -/
theorem cut_open (g o n : Nat) (sv : Value) (ls : List Sp) (s : Sp) (w : World) (hst : St w g sv (.pointer (some ⟨o, 0, none⟩))) (ho : SpAt w o s) (hown : w.ownsRow (g + 1) 47 5 sv n (flat ls)) (hg : g + 1 ≤ w.heap.size) (ao : sv.ownBlock ≠ some o) (hn : n ≤ 4096) :
    Calls Try.prog 23 #[.pointer (some ⟨g, 0, none⟩)] w fun e w' => e = .returned (.tuple #[]) ∧ ∃ sv' n', St w' g sv' (.pointer none) ∧ w'.ownsRow (g + 1) 47 5 sv' n' (flat (ls ++ if 0 < s.p then [s] else [])) ∧ Below g w w' := by
  by_cases hp : 0 < s.p
  · rw [if_pos hp]
    have ag : sv.ownBlock ≠ some g := fun e => by have := own_ge hown g e; omega
    refine (cut_pend g o n (g + 1) sv s.lo s.hi s.p (flat ls) w hst.c3 hst.f3 hst.c4 hst.f4 ho.1 ho.2.1 ho.2.2.1 ho.2.2.2.1 ho.2.2.2.2 hp hown hg ag ao hn).mono ?_
    rintro e w' ⟨rfl, gg, cap, w1, rfl, ho1, hat, hbel, k3, e3, k4, e4⟩
    refine ⟨rfl, _, n + 1, ((St.mk k3 e3 k4 e4).set3 _).set4 _, ?_, ?_⟩
    · have e : flat (ls ++ [s]) = flat ls ++ [.int .i64 s.lo, .int .i64 s.hi, .map none, .int .i64 s.p, .slice none 0 0] := by rw [flat_append, flat_one]; rfl
      rw [e]
      exact ownsRow_setCell_below (ownsRow_setCell_below ho1 (by simp) _) (by simp) _
    · exact ((hbel g (by omega) (fun k hk => by have := own_ge hown k hk; omega)).setCell (by simp) _).setCell (by simp) _
  · rw [if_neg hp, List.append_nil]
    refine (cut_idle g o s.p w hst.c4 hst.f4 ho.2.2.2.1 hp).mono ?_
    rintro e w' ⟨rfl, rfl⟩
    exact ⟨rfl, sv, n, hst.set4 _, ownsRow_setCell_below hown (by simp) _, (Below.refl _ _).setCell (by simp) _⟩

theorem finish_of (g : Nat) (w : World) (Q : Value → World → Prop)
    (h : Calls Try.prog 23 #[.pointer (some ⟨g, 0, none⟩)] w fun e w' => e = .returned (.tuple #[]) ∧ ∃ sv' ov', St w' g sv' ov' ∧ Q sv' w') :
    Calls Try.prog 21 #[.pointer (some ⟨g, 0, none⟩)] w fun e w' => ∃ sv', e = .returned sv' ∧ Q sv' w' := by
  have H := Lib.hid h
  clear h
  go_enter Try.func21, Try.ntmps21
  go_wp2_with fail
  refine H.out.mono ?_
  rintro e w1 ⟨rfl, sv', ov', st, hq⟩
  have c3 := st.c3
  clear st
  have HQ := Lib.hid hq
  clear hq
  go_wp2
  go_ret
  exact ⟨sv', rfl, HQ.out⟩

theorem zzfinish_of (g : Nat) (w : World) (Q : Value → World → Prop)
    (h : Calls Try.prog 23 #[.pointer (some ⟨g, 0, none⟩)] w fun e w' => e = .returned (.tuple #[]) ∧ ∃ sv' ov', St w' g sv' ov' ∧ Q sv' w') :
    Calls Try.prog 9 #[.pointer (some ⟨g, 0, none⟩)] w fun e w' => ∃ sv', e = .returned sv' ∧ Q sv' w' := by
  have H := Lib.hid (finish_of g w Q h)
  clear h
  go_enter Try.func9, Try.ntmps9
  go_wp2_with (go_at_call 21; refine H.out.mono ?_; rintro e w1 ⟨sv', rfl, hq⟩)
  go_ret
  exact ⟨sv', rfl, hq⟩

/-- The first ZZfinish: an open span. -/
theorem fin_open (g o n : Nat) (sv : Value) (ls : List Sp) (s : Sp) (w : World) (hst : St w g sv (.pointer (some ⟨o, 0, none⟩))) (ho : SpAt w o s) (hown : w.ownsRow (g + 1) 47 5 sv n (flat ls)) (hg : g + 1 ≤ w.heap.size) (ao : sv.ownBlock ≠ some o) (hn : n ≤ 4096) :
    Calls Try.prog 9 #[.pointer (some ⟨g, 0, none⟩)] w fun e w' => ∃ sv', e = .returned sv' ∧ ∃ n', St w' g sv' (.pointer none) ∧ w'.ownsRow (g + 1) 47 5 sv' n' (flat (ls ++ if 0 < s.p then [s] else [])) ∧ Below g w w' := by
  refine zzfinish_of g w (fun sv' w' => ∃ n', St w' g sv' (.pointer none) ∧ w'.ownsRow (g + 1) 47 5 sv' n' (flat (ls ++ if 0 < s.p then [s] else [])) ∧ Below g w w') ?_
  refine (cut_open g o n sv ls s w hst ho hown hg ao hn).mono ?_
  rintro e w' ⟨rfl, sv', n', h1, h2, h3⟩
  exact ⟨rfl, sv', _, h1, n', h1, h2, h3⟩

/-- ZZfinish without an open span: the spans as they are. -/
theorem fin_nil (g n : Nat) (sv : Value) (xs : List Value) (w : World) (hst : St w g sv (.pointer none)) (hown : w.ownsRow (g + 1) 47 5 sv n xs) :
    Calls Try.prog 9 #[.pointer (some ⟨g, 0, none⟩)] w fun e w' => ∃ sv', e = .returned sv' ∧ sv' = sv ∧ St w' g sv (.pointer none) ∧ w'.ownsRow (g + 1) 47 5 sv n xs ∧ Below g w w' := by
  refine zzfinish_of g w (fun sv' w' => sv' = sv ∧ St w' g sv (.pointer none) ∧ w'.ownsRow (g + 1) 47 5 sv n xs ∧ Below g w w') ?_
  refine (cut_nil g w hst.c4 hst.f4).mono ?_
  rintro e w' ⟨rfl, rfl⟩
  exact ⟨rfl, sv, _, hst.set4 _, rfl, hst.set4 _, ownsRow_setCell_below hown (by simp) _, (Below.refl _ _).setCell (by simp) _⟩
end Go.Proofs.Qxb6615596a
