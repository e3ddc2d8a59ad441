/-
  ZZnewSpanBuilder (seat b6615596a).
-/
import Derived.Test.Qxb6615596aFin
namespace Go.Proofs.Qxb6615596a
open Go.RowKit
set_option linter.unusedVariables false

theorem St.alloc {w : World} {g : Nat} {sv ov : Value} (h : St w g sv ov) (hg : g < w.heap.size) (X : Obj) : St (w.alloc X) g sv ov :=
  ⟨(((Below.refl w.heap.size w).alloc (Nat.le_refl _) X).cell (p := ⟨g, 3, none⟩) hg).trans h.c3, (((Below.refl w.heap.size w).alloc (Nat.le_refl _) X).frozen (p := ⟨g, 3, none⟩) hg).trans h.f3, (((Below.refl w.heap.size w).alloc (Nat.le_refl _) X).cell (p := ⟨g, 4, none⟩) hg).trans h.c4, (((Below.refl w.heap.size w).alloc (Nat.le_refl _) X).frozen (p := ⟨g, 4, none⟩) hg).trans h.f4⟩

theorem spat_new (W : World) (o : Nat) (e : W.heap.size = o) (s : Sp) : SpAt (W.alloc (.cells #[.int .i64 s.lo, .int .i64 s.hi, .map none, .int .i64 s.p, .slice none 0 0] 47)) o s := by
  subst e
  refine ⟨?_, ?_, ?_, ?_, ?_⟩
  all_goals
    rw [World.cell?_alloc_new]
    rfl

/-- Behind 'b.open = &heldSpan{..}'. -/
theorem new_fin (g n : Nat) (sv : Value) (xs : List Value) (s : Sp) (w wr : World) (st : St wr g sv (.pointer none)) (hown : wr.ownsRow (g + 1) 47 5 sv n xs) (hb : Below g w wr) (hsz : g + 1 ≤ wr.heap.size) :
    St ((wr.setCell ⟨g, 4, none⟩ (.pointer (some ⟨wr.heap.size, 0, none⟩))).alloc (.cells #[.int .i64 s.lo, .int .i64 s.hi, .map none, .int .i64 s.p, .slice none 0 0] 47)) g sv (.pointer (some ⟨wr.heap.size, 0, none⟩)) ∧
    ((wr.setCell ⟨g, 4, none⟩ (.pointer (some ⟨wr.heap.size, 0, none⟩))).alloc (.cells #[.int .i64 s.lo, .int .i64 s.hi, .map none, .int .i64 s.p, .slice none 0 0] 47)).ownsRow (g + 1) 47 5 sv n xs ∧
    Below g w ((wr.setCell ⟨g, 4, none⟩ (.pointer (some ⟨wr.heap.size, 0, none⟩))).alloc (.cells #[.int .i64 s.lo, .int .i64 s.hi, .map none, .int .i64 s.p, .slice none 0 0] 47)) ∧
    g + 1 ≤ ((wr.setCell ⟨g, 4, none⟩ (.pointer (some ⟨wr.heap.size, 0, none⟩))).alloc (.cells #[.int .i64 s.lo, .int .i64 s.hi, .map none, .int .i64 s.p, .slice none 0 0] 47)).heap.size ∧
    SpAt ((wr.setCell ⟨g, 4, none⟩ (.pointer (some ⟨wr.heap.size, 0, none⟩))).alloc (.cells #[.int .i64 s.lo, .int .i64 s.hi, .map none, .int .i64 s.p, .slice none 0 0] 47)) wr.heap.size s ∧ sv.ownBlock ≠ some wr.heap.size := by
  have e : (wr.setCell ⟨g, 4, none⟩ (.pointer (some ⟨wr.heap.size, 0, none⟩))).heap.size = wr.heap.size := by simp [World.setCell]
  refine ⟨(st.set4 _).alloc (by rw [e]; omega) _, (ownsRow_setCell_below hown (by simp) _).alloc _, (hb.setCell (by simp) _).alloc (by rw [e]; omega) _, by simp; omega, spat_new _ _ e s, fun h => ?_⟩
  have := (hown.lt _ h).2
  omega

set_option maxRecDepth 100000 in
set_option maxHeartbeats 6400000 in
theorem new_core (a1 a2 a3 : Option Addr) (n c1 c2 c3 : Nat) (ls : List Sp) (f : Bool) (oLo oHi oPend : Int) (w : World) (hn : n ≤ 4096) (hl : ls.length = n)
    (h1 : Iv w a1 (los ls)) (h2 : Iv w a2 (his ls)) (h3 : Iv w a3 (pends ls)) :
    Calls Try.prog 8 #[.slice a1 n c1, .slice a2 n c2, .slice a3 n c3, .bool f, .int .i64 oLo, .int .i64 oHi, .int .i64 oPend] w fun e w' => e = .returned (.pointer (some ⟨w.heap.size, 0, none⟩)) ∧ ∃ sv ov, St w' w.heap.size sv ov ∧ w'.ownsRow (w.heap.size + 1) 47 5 sv n (flat ls) ∧ Below w.heap.size w w' ∧ w.heap.size + 1 ≤ w'.heap.size ∧
      ((f = false ∧ ov = .pointer none) ∨ (f = true ∧ ∃ o, ov = .pointer (some ⟨o, 0, none⟩) ∧ SpAt w' o ⟨oLo, oHi, oPend⟩ ∧ sv.ownBlock ≠ some o)) := by
  obtain ⟨i0, hi0, hz0, hz1, hz2⟩ := info_parts info47
  have HH := Lib.hid (And.intro h1 (And.intro h2 h3))
  clear h1 h2 h3
  go_enter Try.func8, Try.ntmps8
  go_wp2
  go_loopw [16] (fun i wr => ∃ k : Nat, k ≤ n ∧ i = .int .i64 k ∧ ∃ sv, St wr w.heap.size sv (.pointer none) ∧ wr.ownsRow (w.heap.size + 1) 47 5 sv k (flat (ls.take k)) ∧ Below w.heap.size w wr ∧ w.heap.size + 1 ≤ wr.heap.size) (fun i _ => n - (RowKit.intOf i).toNat)
  case atStart =>
    refine ⟨0, Nat.zero_le _, rfl, .slice none 0 0, ⟨?_, ?_, ?_, ?_⟩, World.ownsRow_nil _ _ _ _, (Below.refl _ _).alloc (Nat.le_refl _) _, by simp⟩
    · rw [World.cell?_alloc_new]; rfl
    · exact World.frozen?_alloc_new _ _ _ _
    · rw [World.cell?_alloc_new]; rfl
    · exact World.frozen?_alloc_new _ _ _ _
  case round =>
    obtain ⟨k, hk, rfl, sv, st, hown, hb, hsz⟩ := hrel
    by_cases hlt : k < n
    · obtain ⟨g1, rfl, hg1, d1⟩ := HH.out.1 k (by simp [los]; omega)
      obtain ⟨g2, rfl, hg2, d2⟩ := HH.out.2.1 k (by simp [his]; omega)
      obtain ⟨g3, rfl, hg3, d3⟩ := HH.out.2.2 k (by simp [pends]; omega)
      have q1 : wr.cell? ⟨g1, k, none⟩ = some (.int .i64 (ls[k]'(by omega)).lo) := (hb.cell (p := ⟨g1, k, none⟩) hg1).trans (by rw [d1]; simp [los])
      have q2 : wr.cell? ⟨g2, k, none⟩ = some (.int .i64 (ls[k]'(by omega)).hi) := (hb.cell (p := ⟨g2, k, none⟩) hg2).trans (by rw [d2]; simp [his])
      have q3 : wr.cell? ⟨g3, k, none⟩ = some (.int .i64 (ls[k]'(by omega)).p) := (hb.cell (p := ⟨g3, k, none⟩) hg3).trans (by rw [d3]; simp [pends])
      clear d1 d2 d3
      have hfl : flat (ls.take (k + 1)) = flat (ls.take k) ++ (ls[k]'(by omega)).cells := by rw [List.take_succ_eq_append_getElem (by omega), flat_append, flat_one]
      have HFL := Lib.hid hfl
      clear hfl
      obtain ⟨sp, hsp⟩ : ∃ sp, sp = ls[k]'(by omega) := ⟨_, rfl⟩
      rw [← hsp] at q1 q2 q3 HFL
      clear hsp
      obtain ⟨lo, hi, pd⟩ := sp
      have b0 : (0 : Int) ≤ (k : Int) := by omega
      have b1 : (k : Int) < (n : Int) := by omega
      have ag : sv.ownBlock ≠ some w.heap.size := fun e => by have := own_ge hown _ e; omega
      obtain ⟨g, hg⟩ : ∃ g, g = w.heap.size := ⟨_, rfl⟩
      rw [← hg] at st hown hb hsz ag hg1 hg2 hg3 ⊢
      have cc3 := st.c3
      have ff3 := st.f3
      have lg : g < wr.heap.size := by omega
      have fa3 : ∀ X, (wr.alloc X).drew.frozen? ⟨g, 3, none⟩ = false := fun X => (((Below.refl wr.heap.size wr).alloc (Nat.le_refl _) X).drew.frozen (p := ⟨g, 3, none⟩) lg).trans st.f3
      have fa4 : ∀ X, (wr.alloc X).drew.frozen? ⟨g, 4, none⟩ = false := fun X => (((Below.refl wr.heap.size wr).alloc (Nat.le_refl _) X).drew.frozen (p := ⟨g, 4, none⟩) lg).trans st.f4
      have ca3 : ∀ X, (wr.alloc X).drew.cell? ⟨g, 3, none⟩ = some sv := fun X => (((Below.refl wr.heap.size wr).alloc (Nat.le_refl _) X).drew.cell (p := ⟨g, 3, none⟩) lg).trans st.c3
      have ca4 : ∀ X, (wr.alloc X).drew.cell? ⟨g, 4, none⟩ = some (.pointer none) := fun X => (((Below.refl wr.heap.size wr).alloc (Nat.le_refl _) X).drew.cell (p := ⟨g, 4, none⟩) lg).trans st.c4
      have HF := Lib.hid (And.intro fa3 (And.intro fa4 (And.intro ca3 ca4)))
      clear fa3 fa4 ca3 ca4
      have HG := Lib.hid hg
      clear hg
      go_wp2
      go_region_law ((refine step_append_lies _ (by rfl) _ _ _ (by rfl) (g + 1) 47 i0 _ 5 56 Try.underlying27 hi0 hz0 hz1 hz2 rfl (by omega) sv k (flat (ls.take k)) (by rfl) ((hown.alloc _).drew) ⟨wr.heap.size, 0, none⟩ 1 1 [.int .i64 lo, .int .i64 hi, .map none, .int .i64 pd, .slice none 0 0] (by rfl) (by rfl) (World.news_of_block (cs := #[.int .i64 lo, .int .i64 hi, .map none, .int .i64 pd, .slice none 0 0]) (t := 47) (fr := (0, 0)) (heap_alloc_new wr _)) (by simp [Value.oneCell']) (by omega) (by unfold maxLen; omega) (by omega) (by simp; omega) (wr.heap.size + 1) (by simp) ?_; intro gg cap w1 hown1 hgrow hat hlt; have k3 := (hgrow.cell_far ⟨g, 3, none⟩ (by simp; omega) (Ne.symm ag)).trans (HF.out.2.2.1 _); have e3 := (hgrow.frozen_far ⟨g, 3, none⟩ (by simp; omega) (Ne.symm ag)).trans (HF.out.1 _); have k4 := (hgrow.cell_far ⟨g, 4, none⟩ (by simp; omega) (Ne.symm ag)).trans (HF.out.2.2.2 _); have e4 := (hgrow.frozen_far ⟨g, 4, none⟩ (by simp; omega) (Ne.symm ag)).trans (HF.out.2.1 _)))
      all_goals
        go_wp2
        go_roundw
        case rel =>
          obtain rfl := HG.out
          refine ⟨k + 1, by omega, by go_num, _, (St.mk k3 e3 k4 e4).set3 _, ?_, ?_, ?_⟩
          · rw [HFL.out]; exact ownsRow_setCell_below hown1 (by simp) _
          · exact (((hb.alloc (by omega) _).drew).grown hgrow (by simp; omega) (fun k hk => by have := own_ge hown k hk; omega)).setCell (by simp) _
          · have := hgrow.size; simp at this ⊢; omega
        case measure => simp [RowKit.intOf]; omega
    · obtain rfl : k = n := by omega
      have hfl : ls.take k = ls := List.take_of_length_le (by omega)
      rw [hfl] at hown
      cases f
      · go_wp2
        go_ret
        first | exact ⟨rfl, sv, _, st, hown, hb, hsz, .inl ⟨rfl, rfl⟩⟩ | exact ⟨rfl, sv, _, st, hown, hb, hsz, rfl⟩
      · have lg : w.heap.size < wr.heap.size := by omega
        have cc4 := st.c4
        have ff4 := st.f4
        go_wp2
        go_ret
        have fin := new_fin w.heap.size k sv (flat ls) ⟨oLo, oHi, oPend⟩ w wr st hown hb hsz
        first | exact ⟨rfl, sv, _, fin.1, fin.2.1, fin.2.2.1, fin.2.2.2.1, .inr ⟨rfl, _, rfl, fin.2.2.2.2.1, fin.2.2.2.2.2⟩⟩ | exact ⟨rfl, sv, _, fin.1, fin.2.1, fin.2.2.1, fin.2.2.2.1, _, rfl, fin.2.2.2.2.1, fin.2.2.2.2.2⟩
end Go.Proofs.Qxb6615596a
