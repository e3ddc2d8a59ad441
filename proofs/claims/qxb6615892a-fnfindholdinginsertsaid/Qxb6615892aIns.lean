/-
  FnFindHoldingInsert (seat b6615892a): lists of strings in memory; the plain law.
-/
import Derived.Test.Qxb6615892aByt
import Derived.Laws.CopyOwn
import Derived.Deep.RegionWith
namespace Go.Proofs.Qxb6615892a
open Go.RowKit
set_option linter.unusedVariables false
set_option linter.unusedSimpArgs false

/-! ### Strings as cells -/
def sv (l : List ByteArray) : List Value := l.map Value.string
theorem sv_length (l : List ByteArray) : (sv l).length = l.length := by simp [sv]
theorem sv_get (l : List ByteArray) (j : Nat) (h : j < l.length) : (sv l)[j]? = some (.string l[j]) := by simp [sv, h]
theorem sv_one (l : List ByteArray) : ∀ v ∈ sv l, v.oneCell' = true := by
  intro v hv
  simp only [sv, List.mem_map] at hv
  obtain ⟨z, _, rfl⟩ := hv
  rfl
theorem sv_src (l : List ByteArray) (x : Addr) (w W : World) (hb : Below w.heap.size w W) (hc : Ws w (some x) l) : ∀ j v, (sv l)[j]? = some v → W.cell? (x.add j) = some v := by
  intro j v hj
  have hjl : j < l.length := by
    have h5 := (List.getElem?_eq_some_iff.1 hj).1
    rwa [sv_length] at h5
  rw [sv_get l j hjl] at hj
  cases hj
  obtain ⟨g, off, e, hg, h0⟩ := hc j hjl
  cases e
  rw [Addr.add_mid]
  exact (hb.cell (p := ⟨g, off + j, none⟩) hg).trans h0
theorem made_block' {w : World} {B g n e : Nat} {xs : List Value} (h : w.ownsRow B e 1 (.slice (some ⟨g, 0, none⟩) n n) n xs) : ∃ cur : Array Value, w.heap[g]? = some (.cells cur e (0, 0)) ∧ cur.size = n := by
  rcases h.2 with ⟨h', _⟩ | ⟨g', cap', cur, h', _, hh, _, _, hs, _⟩
  · simp at h'
  · simp only [Value.slice.injEq, Option.some.injEq, Addr.mk.injEq, and_true, true_and] at h'
    obtain ⟨rfl, rfl⟩ := h'
    exact ⟨cur, hh, by omega⟩
/-- Behind the copy: the list lies in the new row. -/
theorem copied' {w : World} {g n e : Nat} {cur : Array Value} (l : List ByteArray) (hl : l.length = n) (hg : w.heap[g]? = some (.cells cur e (0, 0))) (hs : cur.size = n) :
    Ws (w.setRow g (sv l ++ cur.toList.drop (sv l).length).toArray) (some ⟨g, 0, none⟩) l ∧ g < (w.setRow g (sv l ++ cur.toList.drop (sv l).length).toArray).heap.size := by
  have hh := setRow_heap w g cur (sv l ++ cur.toList.drop (sv l).length).toArray e (0, 0) hg
  have hlt := (Array.getElem?_eq_some_iff.1 hh).1
  refine ⟨fun k hk => ⟨g, 0, rfl, hlt, ?_⟩, hlt⟩
  rw [Nat.zero_add, cell_of_row _ g k _ e (0, 0) hh]
  have : k < (sv l).length := by rw [sv_length]; exact hk
  rw [List.getElem?_toArray, List.getElem?_append_left this]
  exact sv_get l k hk

/-- The first k cells of the row g hold those of the list. -/
def Fil (w : World) (g : Nat) (T : List ByteArray) (k : Nat) : Prop := ∀ j (h : j < T.length), j < k → w.cell? ⟨g, j, none⟩ = some (.string T[j])
/-- The row g has N cells that may be written. -/
def Th (w : World) (g N : Nat) : Prop := g < w.heap.size ∧ ∀ j, j < N → (w.cell? ⟨g, j, none⟩).isSome = true ∧ w.frozen? ⟨g, j, none⟩ = false

theorem made_th {w : World} {B g n e : Nat} {xs : List Value} (h : w.ownsRow B e 1 (.slice (some ⟨g, 0, none⟩) n n) n xs) : Th w g n := by
  refine ⟨?_, fun j hj => made_there h j (by omega)⟩
  obtain ⟨cur, hh, _⟩ := made_block' h
  exact (Array.getElem?_eq_some_iff.1 hh).1

theorem Th.set {w : World} {g N : Nat} (h : Th w g N) (p : Addr) (v : Value) : Th (w.setCell p v) g N := by
  refine ⟨by simpa [World.setCell] using h.1, fun j hj => ?_⟩
  obtain ⟨h1, h2⟩ := h.2 j hj
  refine ⟨?_, by rw [World.frozen?_setCell]; exact h2⟩
  obtain ⟨u, hu⟩ := Option.isSome_iff_exists.1 h1
  by_cases e : p = ⟨g, j, none⟩
  · subst e; rw [World.cell?_setCell_same _ _ _ hu]; rfl
  · rw [World.cell?_setCell_other _ _ _ _ e, hu]; rfl
theorem Fil.step {w : World} {g N : Nat} {T : List ByteArray} {k : Nat} (h : Fil w g T k) (t : Th w g N) (hk : k < N) (hT : k < T.length) : Fil (w.setCell ⟨g, k, none⟩ (.string T[k])) g T (k + 1) := fun j hj hl => by
  by_cases e : j = k
  · subst e
    obtain ⟨u, hu⟩ := Option.isSome_iff_exists.1 (t.2 j hk).1
    exact World.cell?_setCell_same _ _ _ hu
  · rw [World.cell?_setCell_other _ _ _ _ (fun h => e (by cases h; rfl))]
    exact h j hj (by omega)
theorem Fil.far {w : World} {g : Nat} {T : List ByteArray} {k : Nat} (h : Fil w g T k) (p : Addr) (v : Value) (hp : p.block ≠ g) : Fil (w.setCell p v) g T k := fun j hj hl => by
  rw [World.cell?_setCell_other _ _ _ _ (fun e => hp (by rw [e]))]
  exact h j hj hl
theorem Fil.on {w w' : World} {g : Nat} {T : List ByteArray} {k : Nat} (h : Fil w g T k) {B : Nat} (hb : Below B w w') (hg : g < B) : Fil w' g T k := fun j hj hl => (hb.cell (p := ⟨g, j, none⟩) hg).trans (h j hj hl)
theorem Th.on {w w' : World} {g N : Nat} (h : Th w g N) {B : Nat} (hb : Below B w w') (hg : g < B) (hB : B ≤ w.heap.size) : Th w' g N :=
  ⟨by have := hb.size; omega, fun j hj => ⟨by rw [hb.cell (p := ⟨g, j, none⟩) hg]; exact (h.2 j hj).1, by rw [hb.frozen (p := ⟨g, j, none⟩) hg]; exact (h.2 j hj).2⟩⟩
theorem Fil.ws {w : World} {g : Nat} {T : List ByteArray} (h : Fil w g T T.length) (hg : g < w.heap.size) : Ws w (some ⟨g, 0, none⟩) T := fun k hk => ⟨g, 0, rfl, hg, by rw [Nat.zero_add]; exact h k hk hk⟩
theorem Ws.drew {w : World} {a : Option Addr} {l : List ByteArray} (h : Ws w a l) : Ws w.drew a l := fun k hk => by
  obtain ⟨g, o, e, hg, hc⟩ := h k hk
  exact ⟨g, o, e, hg, hc⟩
/-- The part before q, the part from q. -/
theorem Ws.take {w : World} {a : Option Addr} {l : List ByteArray} (h : Ws w a l) (q : Nat) : Ws w a (l.take q) := fun k hk => by
  have hk' : k < l.length := by simp at hk; omega
  obtain ⟨g, o, e, hg, hc⟩ := h k hk'
  exact ⟨g, o, e, hg, by rw [List.getElem_take]; exact hc⟩
theorem Ws.drop {w : World} {b o : Nat} {l : List ByteArray} (h : Ws w (some ⟨b, o, none⟩) l) (q : Nat) : Ws w (some ⟨b, o + q, none⟩) (l.drop q) := fun k hk => by
  have hk' : q + k < l.length := by simp at hk; omega
  obtain ⟨g, o', e, hg, hc⟩ := h (q + k) hk'
  cases e
  exact ⟨b, o + q, rfl, hg, by rw [List.getElem_drop, Nat.add_assoc]; exact hc⟩

theorem Ws.dropIf {w : World} {b n : Nat} {l : List ByteArray} (h : Ws w (some ⟨b, 0, none⟩) l) (hl : l.length = n) (q : Nat) : Ws w (if n = q then some ⟨b, 0, none⟩ else some ⟨b, q, none⟩) (l.drop q) := by
  by_cases e : n = q
  · rw [if_pos e]
    exact fun k hk => absurd hk (by simp; omega)
  · rw [if_neg e]
    have := h.drop q
    rwa [Nat.zero_add] at this

/-- The two new rows, filled up to k; all below g2 as it was. -/
def Inv (m wr : World) (g2 g3 N : Nat) (T U : List ByteArray) (k : Nat) : Prop := Below g2 m wr ∧ Th wr g2 N ∧ Th wr g3 N ∧ Fil wr g2 T k ∧ Fil wr g3 U k
theorem Inv.step {m wr : World} {g2 g3 N : Nat} {T U : List ByteArray} {k : Nat} (h : Inv m wr g2 g3 N T U k) (h23 : g2 < g3) (hk : k < N) (hT : k < T.length) (hU : k < U.length) {x y : ByteArray} (ex : T[k] = x) (ey : U[k] = y) :
    Inv m ((wr.setCell ⟨g2, k, none⟩ (.string x)).setCell ⟨g3, k, none⟩ (.string y)) g2 g3 N T U (k + 1) := by
  subst ex
  subst ey
  obtain ⟨b, t2, t3, f2, f3⟩ := h
  refine ⟨(b.setCell (p := ⟨g2, k, none⟩) (Nat.le_refl _) _).setCell (p := ⟨g3, k, none⟩) (Nat.le_of_lt h23) _, (t2.set _ _).set _ _, (t3.set _ _).set _ _, ?_, ?_⟩
  · exact (f2.step t2 hk hT).far _ _ (by simp; omega)
  · exact (f3.far _ _ (by simp; omega)).step (t3.set _ _) hk hU
/-- The facts that the two stores want. -/
theorem Inv.facts {m wr : World} {g2 g3 N : Nat} {T U : List ByteArray} {k : Nat} (h : Inv m wr g2 g3 N T U k) (h23 : g2 < g3) (hk : k < N) (x : ByteArray) :
    ∃ v2 v3, wr.cell? ⟨g2, k, none⟩ = some v2 ∧ wr.frozen? ⟨g2, k, none⟩ = false ∧ wr.cell? ⟨g3, k, none⟩ = some v3 ∧ wr.frozen? ⟨g3, k, none⟩ = false ∧ (wr.setCell ⟨g2, k, none⟩ (.string x)).cell? ⟨g3, k, none⟩ = some v3 ∧ (wr.setCell ⟨g2, k, none⟩ (.string x)).frozen? ⟨g3, k, none⟩ = false := by
  obtain ⟨b, t2, t3, f2, f3⟩ := h
  obtain ⟨v2, h2⟩ := Option.isSome_iff_exists.1 (t2.2 k hk).1
  obtain ⟨v3, h3⟩ := Option.isSome_iff_exists.1 (t3.2 k hk).1
  refine ⟨v2, v3, h2, (t2.2 k hk).2, h3, (t3.2 k hk).2, ?_, ?_⟩
  · rw [World.cell?_setCell_other _ _ _ _ (fun h => by cases h; omega)]; exact h3
  · rw [World.frozen?_setCell]; exact (t3.2 k hk).2
/-- What is read of a list below g2. -/
theorem Inv.src {m wr : World} {g2 g3 N : Nat} {T U : List ByteArray} {k : Nat} (h : Inv m wr g2 g3 N T U k) {g : Nat} {l : List ByteArray} (hg : g < g2) (hw : Ws m (some ⟨g, 0, none⟩) l) (j : Nat) (hj : j < l.length) : wr.cell? ⟨g, j, none⟩ = some (.string l[j]) := by
  obtain ⟨g', o, e, _, hc⟩ := hw j hj
  cases e
  rw [Nat.zero_add] at hc
  exact (h.1.cell (p := ⟨g, j, none⟩) hg).trans hc
theorem far_cell {wr : World} {g2 g j k : Nat} {x : ByteArray} {v : Value} (h : g < g2) (hc : wr.cell? ⟨g, j, none⟩ = some v) : (wr.setCell ⟨g2, k, none⟩ (.string x)).cell? ⟨g, j, none⟩ = some v := by
  rw [World.cell?_setCell_other _ _ _ _ (fun h => by cases h; omega)]; exact hc

/-! ### The list with the new one -/
def ins (l : List ByteArray) (q : Nat) (x : ByteArray) : List ByteArray := l.take q ++ x :: l.drop q
theorem ins_length (l : List ByteArray) (q : Nat) (x : ByteArray) (hq : q ≤ l.length) : (ins l q x).length = l.length + 1 := by simp [ins]; omega
theorem ins_lt (l : List ByteArray) (q : Nat) (x : ByteArray) (hq : q ≤ l.length) (k : Nat) (hk : k < q) : (ins l q x)[k]'(by rw [ins_length _ _ _ hq]; omega) = l[k]'(by omega) := by
  simp only [ins]
  rw [List.getElem_append_left (by simp; omega)]
  simp
theorem ins_at (l : List ByteArray) (q : Nat) (x : ByteArray) (hq : q ≤ l.length) : (ins l q x)[q]'(by rw [ins_length _ _ _ hq]; omega) = x := by
  simp only [ins]
  rw [List.getElem_append_right (by simp; omega)]
  have : q - (l.take q).length = 0 := by simp; omega
  simp only [this, List.getElem_cons_zero]
theorem ins_gt (l : List ByteArray) (q : Nat) (x : ByteArray) (k : Nat) (hk : q ≤ k) (hl : k < l.length) : (ins l q x)[k + 1]'(by rw [ins_length _ _ _ (by omega)]; omega) = l[k] := by
  simp only [ins]
  rw [List.getElem_append_right (by simp; omega)]
  have : k + 1 - (l.take q).length = (k - q) + 1 := by simp; omega
  simp only [this, List.getElem_cons_succ, List.getElem_drop]
  congr 1
  omega

/-! ### The plain law -/
theorem fnd_append (sec : ByteArray) : ∀ A B : List (ByteArray × ByteArray), fnd sec (A ++ B) = if (fnd sec A).2.2 then fnd sec A else fnd sec B
  | [], B => by simp [fnd]
  | (s, i) :: r, B => by
    simp only [List.cons_append, fnd]
    by_cases h : (s.toList == sec.toList) = true
    · simp [h]
    · simp only [h]; exact fnd_append sec r B
theorem fnd_ok (sec : ByteArray) : ∀ L : List (ByteArray × ByteArray), (fnd sec L).2.2 = true → ((fnd sec L).1.toList == sec.toList) = true
  | [], h => by simp [fnd] at h
  | (s, i) :: r, h => by
    simp only [fnd] at h ⊢
    by_cases h' : (s.toList == sec.toList) = true
    · simp only [h']; exact h'
    · simp only [h'] at h ⊢; exact fnd_ok sec r h
theorem fnd_no (sec : ByteArray) : ∀ L : List (ByteArray × ByteArray), (fnd sec L).2.2 = false → fnd sec L = (⟨#[]⟩, ⟨#[]⟩, false)
  | [], h => rfl
  | (s, i) :: r, h => by
    simp only [fnd] at h ⊢
    by_cases h' : (s.toList == sec.toList) = true
    · simp only [h'] at h; cases h
    · simp only [h'] at h ⊢; exact fnd_no sec r h

/-- WHAT THE FOUR CALLS ANSWER. -/
theorem plain (S I : List ByteArray) (sec ni : ByteArray) (q : Nat) (hl : S.length = I.length) (hq : q ≤ S.length) :
    (∃ X Y X' Y' b', (X.toList == sec.toList) = true ∧ fnd sec ((S.take q).zip (I.take q)) = (X, Y, true) ∧ fnd sec (S.zip I) = (X, Y, true) ∧ fnd sec ((ins S q sec).zip (ins I q ni)) = (X, Y, true) ∧ fnd sec ((S.drop q).zip (I.drop q)) = (X', Y', b')) ∨
    (∃ X Y, (X.toList == sec.toList) = true ∧ fnd sec ((S.take q).zip (I.take q)) = (⟨#[]⟩, ⟨#[]⟩, false) ∧ fnd sec (S.zip I) = (X, Y, true) ∧ fnd sec ((ins S q sec).zip (ins I q ni)) = (sec, ni, true) ∧ fnd sec ((S.drop q).zip (I.drop q)) = (X, Y, true)) ∨
    (fnd sec ((S.take q).zip (I.take q)) = (⟨#[]⟩, ⟨#[]⟩, false) ∧ fnd sec (S.zip I) = (⟨#[]⟩, ⟨#[]⟩, false) ∧ fnd sec ((ins S q sec).zip (ins I q ni)) = (sec, ni, true) ∧ fnd sec ((S.drop q).zip (I.drop q)) = (⟨#[]⟩, ⟨#[]⟩, false)) := by
  have e1 : S.zip I = (S.take q).zip (I.take q) ++ (S.drop q).zip (I.drop q) := by
    rw [← List.zip_append (by simp; omega), List.take_append_drop, List.take_append_drop]
  have e2 : (ins S q sec).zip (ins I q ni) = (S.take q).zip (I.take q) ++ (sec, ni) :: (S.drop q).zip (I.drop q) := by
    simp only [ins]
    rw [List.zip_append (by simp; omega), List.zip_cons_cons]
  rw [e1, e2, fnd_append, fnd_append]
  generalize (S.take q).zip (I.take q) = A
  generalize (S.drop q).zip (I.drop q) = B
  have hself : fnd sec ((sec, ni) :: B) = (sec, ni, true) := by simp [fnd]
  rw [hself]
  cases hA : (fnd sec A).2.2 with
  | true =>
    obtain ⟨X, Y, o, hAA⟩ : ∃ X Y o, fnd sec A = (X, Y, o) := ⟨_, _, _, rfl⟩
    rw [hAA] at hA
    simp only at hA
    subst hA
    have hk := fnd_ok sec A (by rw [hAA])
    rw [hAA] at hk
    exact .inl ⟨X, Y, (fnd sec B).1, (fnd sec B).2.1, (fnd sec B).2.2, hk, hAA, by simp [hAA], by simp [hAA], rfl⟩
  | false =>
    have hAA := fnd_no sec A hA
    rw [hAA]
    cases hB : (fnd sec B).2.2 with
    | true =>
      obtain ⟨X, Y, o, hBB⟩ : ∃ X Y o, fnd sec B = (X, Y, o) := ⟨_, _, _, rfl⟩
      rw [hBB] at hB
      simp only at hB
      subst hB
      have hk := fnd_ok sec B (by rw [hBB])
      rw [hBB] at hk
      exact .inr (.inl ⟨X, Y, hk, rfl, by simp [hBB], by simp, hBB⟩)
    | false =>
      have hBB := fnd_no sec B hB
      rw [hBB]
      exact .inr (.inr ⟨rfl, by simp, by simp, rfl⟩)
end Go.Proofs.Qxb6615892a
