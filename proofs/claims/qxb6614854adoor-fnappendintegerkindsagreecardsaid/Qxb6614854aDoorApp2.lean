/-
  strconv.AppendInt, AppendUint at base 10 onto a row without spare room: the two contracts that the laws take (seat b6614854aD).
-/
import Derived.Test.Qxb6614854aDoorApp
namespace Go.Proofs.Qxb6614854aDoor
open Go.RowKit Go.Lib Go.Sort
set_option linter.unusedVariables false

theorem cs_holds (w : World) (g : Nat) (l : List Int) (h : ∀ j (h : j < l.length), w.cell? ⟨g, j, none⟩ = some (.int .u8 l[j])) : ∀ j v, (cs l)[j]? = some v → w.cell? ((⟨g, 0, none⟩ : Addr).add j) = some v := by
  intro j v hj
  have hjl : j < l.length := by
    have h5 := (List.getElem?_eq_some_iff.1 hj).1
    rwa [cs_length] at h5
  rw [cs_get l j hjl] at hj
  cases hj
  rw [Addr.add_lit, Nat.zero_add]
  exact h j hjl

/-- internal/strconv.AppendUint(dst, u, 10). -/
theorem iuint (v : Value) (l : List Int) (u : Nat) (w : World) (hu : u ≤ 18446744073709551615) (hv : Cp w v l) (hl : l.length ≤ 4194304) (ht : Tab w) :
    Calls Tryd.prog 26 #[v, .int .u64 (u : Int), .int .i64 10] w fun e w' => ∃ v', e = .returned v' ∧ Vw w' v' (l ++ txt false u) ∧ Below w.heap.size w w' := by
  rcases hv with ⟨rfl, rfl⟩ | ⟨g, rfl, hg, hc⟩
  · refine (Tryd.internal_strconv_AppendUint_10 w.heap.size 0 u (by omega) (.slice none 0 0) [] w (World.ownsRow_nil _ _ _ _) (Nat.le_refl _) (by omega) ht).mono ?_
    rintro e w' ⟨v', rfl, ho, hb, _⟩
    refine ⟨v', rfl, ?_, hb⟩
    have e1 : ([] : List Value) ++ Lib.byteCells (Lib.decDigits u) = cs ([] ++ txt false u) := cs_txt [] u
    rw [e1] at ho
    exact (Vw.of_owns ho).1
  · have hh := cs_holds w g l hc
    by_cases hs : u < 100
    · refine (uint_small g l.length u hs (cs l) w (cs_length l) hh hl).mono ?_
      rintro e w' ⟨v', rfl, ho, hb⟩
      rw [cs_txt] at ho
      exact ⟨v', rfl, (Vw.of_owns ho).1, hb⟩
    · refine (uint_big g l.length u (by omega) (by omega) (cs l) w hg (cs_length l) hh hl ht).mono ?_
      rintro e w' ⟨v', rfl, ho, hb⟩
      rw [cs_txt] at ho
      exact ⟨v', rfl, (Vw.of_owns ho).1, hb⟩

set_option maxHeartbeats 1600000 in
/-- internal/strconv.AppendInt(dst, i, 10), i negative. -/
theorem iint_neg (g n u : Nat) (l : List Int) (w : World) (hn : l.length = n) (h1 : 1 ≤ u) (h2 : u ≤ 9223372036854775808) (hl : n ≤ 4194304) (hg : g < w.heap.size)
    (hh : ∀ j v, (cs l)[j]? = some v → w.cell? ((⟨g, 0, none⟩ : Addr).add j) = some v) (ht : Tab w) :
    Calls Tryd.prog 25 #[.slice (some ⟨g, 0, none⟩) n n, .int .i64 (-(u : Int)), .int .i64 10] w fun e w' => ∃ v', e = .returned v' ∧ Vw w' v' (l ++ txt true u) ∧ Below w.heap.size w w' := by
  obtain ⟨i0, hi, hz0, hz1, hz2⟩ := info_parts infoByte
  have hwr : IntKind.u64.wrap (-IntKind.u64.wrap (-(u : Int))) = (u : Int) := by rw [IntKind.wrap_u64, IntKind.wrap_u64]; omega
  have HT := Lib.hid ht
  have hlo : (cs l).length = n := by rw [cs_length, hn]
  have holds2 : ∀ o b, some (⟨g, 0, none⟩ : Addr) = some b → ∀ j u, (cs l)[j]? = some u → (w.alloc o).cell? (b.add j) = some u := by
    intro o b hb j u' hj
    cases hb
    have := hh j u' hj
    rw [Addr.add_lit] at this ⊢
    rw [World.cell?_alloc_past _ _ _ (by exact hg)]
    exact this
  have HO := Lib.hid holds2
  clear ht hh holds2
  go_enter Tryd.func25, Tryd.ntmps25
  go_wp2_with (at_builtin; refine wpList_append_grows _ rfl _ _ 22 rfl 5 i0 (.int .u8 0) 1 1 Tryd.underlying22 hi hz0 hz1 hz2 rfl (by decide) (some ⟨g, 0, none⟩) n n (cs l) rfl (fun h => by cases h) (by omega) (HO.out _) ⟨w.heap.size, 0, none⟩ 1 1 [Value.int .u8 45] rfl rfl (by intro j u' hj; match j, hj with | 0, hj => simp at hj; subst hj; simp [Addr.add]) (by intro u' hu'; simp at hu'; subst hu'; rfl) (by omega) (by unfold maxLen; omega) (by omega) ?_)
  intro v1 w1 hown1 hgrow1
  have hb1 : Below w.heap.size w w1 := ((Below.refl _ _).alloc (Nat.le_refl _) _).grown hgrow1 (by simp) (fun k hk => by cases hk)
  have ht1 : Tab w1 := HT.out.on hb1
  have ho1 := ownsRow_down hown1 (B' := w.heap.size) (by simp)
  clear hown1 hgrow1
  go_wp2_with fail
  refine (Tryd.internal_strconv_AppendUint_10 w.heap.size (n + 1) u (by omega) v1 _ w1 ho1 hb1.size (by omega) ht1).mono ?_
  rintro e w2 ⟨v2, rfl, ho2, hb2, _⟩
  go_wp2
  go_ret
  rw [cs_txt_neg] at ho2
  exact ⟨v2, rfl, (Vw.of_owns ho2).1, hb1.trans hb2⟩

theorem iint_pos (v : Value) (u : Nat) (l : List Int) (w : World) (h2 : u ≤ 9223372036854775807) (hl : l.length ≤ 4194304) (hv : Cp w v l) (ht : Tab w) :
    Calls Tryd.prog 25 #[v, .int .i64 (u : Int), .int .i64 10] w fun e w' => ∃ v', e = .returned v' ∧ Vw w' v' (l ++ txt false u) ∧ Below w.heap.size w w' := by
  have HH := Lib.hid (iuint v l u w (by omega) hv hl ht)
  clear hv ht
  go_enter Tryd.func25, Tryd.ntmps25
  go_wp2_with (go_at_call 26; refine HH.out.mono ?_; rintro e w2 ⟨v2, rfl, ho2, hb2⟩)
  go_ret
  exact ⟨v2, rfl, ho2, hb2⟩

theorem iint (v : Value) (l : List Int) (i : Int) (w : World) (h0 : -9223372036854775808 ≤ i) (h1 : i ≤ 9223372036854775807) (hv : Cp w v l) (hl : l.length ≤ 4194304) (ht : Tab w) :
    Calls Tryd.prog 25 #[v, .int .i64 i, .int .i64 10] w fun e w' => ∃ v', e = .returned v' ∧ Vw w' v' (l ++ txt (decide (i < 0)) i.natAbs) ∧ Below w.heap.size w w' := by
  by_cases hneg : i < 0
  · obtain ⟨u, rfl⟩ : ∃ u : Nat, i = -(u : Int) := ⟨i.natAbs, by omega⟩
    rw [decide_eq_true hneg, Int.natAbs_neg, Int.natAbs_natCast]
    rcases hv with ⟨rfl, rfl⟩ | ⟨g, rfl, hg, hc⟩
    · refine (Tryd.internal_strconv_AppendInt_10 w.heap.size 0 (-(u : Int)) h0 h1 (.slice none 0 0) [] w (World.ownsRow_nil _ _ _ _) (Nat.le_refl _) (by omega) (Lib.tabBelow_of_tabIs ht)).mono ?_
      rintro e w' ⟨v', rfl, ho, hb, _⟩
      refine ⟨v', rfl, ?_, hb⟩
      rw [Lib.itoa_neg u (by omega)] at ho
      have e1 : ([] : List Value) ++ Lib.byteCells (45 :: Lib.decDigits u) = cs ([] ++ txt true u) := by
        rw [← cs_txt_neg]; simp [cs, Lib.byteCells]
      rw [e1] at ho
      exact (Vw.of_owns ho).1
    · exact iint_neg g l.length u l w rfl (by omega) (by omega) hl hg (cs_holds w g l hc) ht
  · obtain ⟨u, rfl⟩ : ∃ u : Nat, i = (u : Int) := ⟨i.natAbs, by omega⟩
    rw [decide_eq_false hneg, Int.natAbs_natCast]
    exact iint_pos v u l w (by omega) hl hv ht

theorem appInt : AppIntC := by
  intro v l i w h0 h1 hv hl ht
  have HH := Lib.hid (iint v l i w h0 h1 hv hl ht)
  clear hv ht
  go_enter Tryd.func23, Tryd.ntmps23
  go_wp2_with (go_at_call 25; refine HH.out.mono ?_; rintro e w2 ⟨v2, rfl, ho2, hb2⟩)
  go_ret
  exact ⟨v2, rfl, ho2, hb2⟩

theorem appUint : AppUintC := by
  intro v l u w h1 hv hl ht
  have HH := Lib.hid (iuint v l u w h1 hv hl ht)
  clear hv ht
  go_enter Tryd.func24, Tryd.ntmps24
  go_wp2_with (go_at_call 26; refine HH.out.mono ?_; rintro e w2 ⟨v2, rfl, ho2, hb2⟩)
  go_ret
  exact ⟨v2, rfl, ho2, hb2⟩
end Go.Proofs.Qxb6614854aDoor
