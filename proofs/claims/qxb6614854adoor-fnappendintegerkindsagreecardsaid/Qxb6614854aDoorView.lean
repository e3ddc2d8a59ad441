/-
  A row of bytes without spare room (seat b6614854aD): what cloneBytes hands back; an append onto it always moves.
-/
import Derived.Test.Qxb6614854aDoorCheck
import Derived.Test.Qxb6614854aDoorSame
import Derived.Lib.AppendIntMem
import Derived.Test.Qxb6614854aDoorShelf
namespace Go.Proofs.Qxb6614854aDoor
open Go.RowKit Go.Lib

/-- nil and no byte; or the head of a block, the capacity its length. -/
def Cp (w : World) (v : Value) (l : List Int) : Prop :=
  (v = .slice none 0 0 ∧ l = []) ∨
  ∃ g, v = .slice (some ⟨g, 0, none⟩) l.length l.length ∧ g < w.heap.size ∧ ∀ j (h : j < l.length), w.cell? ⟨g, j, none⟩ = some (.int .u8 l[j])

theorem Cp.on {w w' : World} {v : Value} {l : List Int} (h : Cp w v l) (hb : Below w.heap.size w w') : Cp w' v l := by
  rcases h with h | ⟨g, rfl, h2, h3⟩
  · exact .inl h
  · exact .inr ⟨g, rfl, by have := hb.size; omega, fun j hj => (hb.cell (p := ⟨g, j, none⟩) h2).trans (h3 j hj)⟩

theorem Cp.vw {w : World} {v : Value} {l : List Int} (h : Cp w v l) : Vw w v l := by
  rcases h with h | ⟨g, rfl, h2, h3⟩
  · exact .inl h
  · exact .inr ⟨g, _, rfl, Nat.le_refl _, h2, h3⟩

theorem Cp.nil (w : World) : Cp w (.slice none 0 0) [] := .inl ⟨rfl, rfl⟩

def Tab (w : World) : Prop := Lib.TabIs Tryd.prog w tabName .u64 Lib.pow10Tab

theorem Tab.on {w w' : World} (h : Tab w) (hb : Below w.heap.size w w') : Tab w' := Lib.tabBelow_of_tabIs h w' hb

theorem mag_any (x : Int) (w : World) (h0 : -9223372036854775808 ≤ x) (h1 : x ≤ 9223372036854775807) :
    Calls Tryd.prog 9 #[.int .i64 x] w fun e w' => e = .returned (.int .u64 (x.natAbs : Int)) ∧ w' = w := by
  by_cases h : x < 0
  · obtain ⟨u, rfl⟩ : ∃ u : Nat, x = -(u : Int) := ⟨x.natAbs, by omega⟩
    have := mag64_neg u w (by omega) (by omega)
    simpa using this
  · obtain ⟨u, rfl⟩ : ∃ u : Nat, x = (u : Int) := ⟨x.natAbs, by omega⟩
    have := mag64_pos u w (by omega)
    simpa using this

/-- cloneBytes at what has been made. -/
theorem clone_vw (v : Value) (l : List Int) (w : World) (hl : l.length ≤ 4194304) (h : Vw w v l) :
    Calls Tryd.prog 6 #[v] w fun e w' => ∃ v', e = .returned v' ∧ Cp w' v' l ∧ Below w.heap.size w w' ∧ (v' = .slice none 0 0 ↔ v = .slice none 0 0) := by
  rcases h with ⟨rfl, rfl⟩ | ⟨g, cap, rfl, hcap, hg, hc⟩
  · refine (clone_nil w).mono ?_
    rintro e w' ⟨rfl, rfl⟩
    exact ⟨_, rfl, Cp.nil _, Below.refl _ _, Iff.rfl⟩
  · refine (clone_some ⟨g, 0, none⟩ l.length cap l w hl (Nat.le_refl _) (fun j hj => by rw [Addr.add_lit, Nat.zero_add]; exact hc j hj) (fun _ => hg)).mono ?_
    rintro e w' ⟨rfl, ho, hb⟩
    refine ⟨_, rfl, .inr ⟨w.heap.size, rfl, ?_, fun j hj => ?_⟩, hb, by simp⟩
    · rcases ho.2 with ⟨h', _⟩ | ⟨g', cap', cur, h', _, hh, _⟩
      · simp at h'
      · simp only [Value.slice.injEq, Option.some.injEq, Addr.mk.injEq, and_true, true_and] at h'
        obtain ⟨rfl, rfl⟩ := h'
        rcases Nat.lt_or_ge w.heap.size w'.heap.size with h1 | h1
        · exact h1
        · rw [Array.getElem?_eq_none h1] at hh; cases hh
    · rw [ho.cellAt j (by omega), List.take_length, cs_get l j hj]
end Go.Proofs.Qxb6614854aDoor
