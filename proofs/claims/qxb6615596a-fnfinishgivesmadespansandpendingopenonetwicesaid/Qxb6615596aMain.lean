/-
  THE LAW 'FnFinishGivesMadeSpansAndPendingOpenOneTwice' (seat b6615596a): the copies, then the contracts. One walk for each way in which the three lists may be nil.
-/
import Derived.Test.Qxb6615596aNew
import Derived.Test.Qxb6615596aPre
namespace Go.Proofs.Qxb6615596a
open Go.RowKit
set_option linter.unusedVariables false

def ci (l : List Int) : List Value := l.map (Value.int .i64)
theorem ci_length (l : List Int) : (ci l).length = l.length := by simp [ci]
theorem ci_get (l : List Int) (j : Nat) (h : j < l.length) : (ci l)[j]? = some (.int .i64 l[j]) := by simp [ci, h]
theorem ci_one (l : List Int) : ∀ v ∈ ci l, v.oneCell' = true := by
  intro v hv
  simp only [ci, List.mem_map] at hv
  obtain ⟨z, _, rfl⟩ := hv
  rfl
/-- The source's cells, in a later world. -/
theorem ci_src (l : List Int) (x : Addr) (w W : World) (hb : Below w.heap.size w W) (hc : ∀ j (h : j < l.length), w.cell? (x.add j) = some (.int .i64 l[j])) : ∀ j v, (ci l)[j]? = some v → W.cell? (x.add j) = some v := by
  intro j v hj
  have hjl : j < l.length := by
    have h5 := (List.getElem?_eq_some_iff.1 hj).1
    rwa [ci_length] at h5
  rw [ci_get l j hjl] at hj
  cases hj
  have h0 := hc j hjl
  rw [hb.cell (p := x.add j) (World.block_lt_of_cell? _ _ h0)]
  exact h0
/-- The row that make has laid, known whole. -/
theorem made_block {w : World} {B g n e : Nat} {xs : List Value} (h : w.ownsRow B e 1 (.slice (some ⟨g, 0, none⟩) n n) n xs) : ∃ cur : Array Value, w.heap[g]? = some (.cells cur e (0, 0)) ∧ cur.size = n := by
  rcases h.2 with ⟨h', _⟩ | ⟨g', cap', cur, h', _, hh, _, _, hs, _⟩
  · simp at h'
  · simp only [Value.slice.injEq, Option.some.injEq, Addr.mk.injEq, and_true, true_and] at h'
    obtain ⟨rfl, rfl⟩ := h'
    exact ⟨cur, hh, by omega⟩
/-- Behind the copy. -/
theorem copied {w : World} {g n e : Nat} {cur : Array Value} (l : List Int) (hl : l.length = n) (hg : w.heap[g]? = some (.cells cur e (0, 0))) (hs : cur.size = n) :
    Iv (w.setRow g (ci l ++ cur.toList.drop (ci l).length).toArray) (some ⟨g, 0, none⟩) l := by
  intro k hk
  have hgl : g < w.heap.size := by
    rcases Nat.lt_or_ge g w.heap.size with h1 | h1
    · exact h1
    · rw [Array.getElem?_eq_none h1] at hg; cases hg
  have e1 : ci l ++ cur.toList.drop (ci l).length = ci l := by
    rw [ci_length, List.drop_of_length_le (by simp; omega), List.append_nil]
  refine ⟨g, rfl, by simpa [World.setRow] using hgl, ?_⟩
  rw [e1]
  have hh := setRow_heap w g cur (ci l).toArray e (0, 0) hg
  rw [cell_of_row _ g k _ e (0, 0) hh]
  simpa using ci_get l k hk

set_option maxRecDepth 100000 in
set_option maxHeartbeats 6400000 in
theorem law_NNN   (f : Bool) (s : Sp) (w : World)  :
    Calls Try.prog 3 #[.slice none 0 0, .slice none 0 0, .slice none 0 0, .bool f, .int .i64 s.lo, .int .i64 s.hi, .int .i64 s.p] w fun e w' => e = .returned (.bool true) ∧ Below w.heap.size w w' := by
  have hn22 := fun (w : World) a n c => run_neq_slice_nil_any (P := Try.prog) w 22 2 a n c 0 0 Try.underlying22
  have hn23 := fun (w : World) a n c => run_neq_slice_nil_any (P := Try.prog) w 23 3 a n c 0 0 Try.underlying23
  obtain ⟨i2, hi2, hy0, hy1, hy2⟩ := info_parts info2
  obtain ⟨i3, hi3, hx0, hx1, hx2⟩ := info_parts info3
  have hc0 : ∀ (x : Addr) j (h : j < (los []).length), w.cell? (x.add j) = some (.int .i64 (los [])[j]) := fun x j h => by simp [los] at h
  have hc1 : ∀ (x : Addr) j (h : j < (his []).length), w.cell? (x.add j) = some (.int .i64 (his [])[j]) := fun x j h => by simp [his] at h
  have hc2 : ∀ (x : Addr) j (h : j < (pends []).length), w.cell? (x.add j) = some (.int .i64 (pends [])[j]) := fun x j h => by simp [pends] at h
  have l0 : (los []).length = 0 := rfl
  have l1 : (his []).length = 0 := rfl
  have l2 : (pends []).length = 0 := rfl
  have HS := Lib.hid (And.intro hc0 (And.intro hc1 hc2))
  clear hc0 hc1 hc2
  have HB := Lib.hid (And.intro l0 (And.intro l1 l2))
  clear l0 l1 l2
  go_enter Try.func3, Try.ntmps3
  go_wp2_with fail
  refine (zz_small _ _ _ 0 _ _ _ _ _ _ _ w (by omega)).mono ?_
  rintro e w0 ⟨rfl, rfl⟩
  have bb0 : Below w0.heap.size w0 w0 := Below.refl _ _
  have iv0 : Iv w0 none (los []) := fun k h => by simp [los] at h
  have iv1 : Iv w0 none (his []) := fun k h => by simp [his] at h
  have iv2 : Iv w0 none (pends []) := fun k h => by simp [pends] at h
  go_wp2_with fail
  refine (new_core (none) (none) (none) 0 0 0 0 [] f s.lo s.hi s.p _ (by omega) rfl iv0 iv1 iv2).mono ?_
  rintro e t1 ⟨rfl, sv, ov, st1, ho1, b1, z1, hov⟩
  obtain ⟨g, hg⟩ : ∃ g, g = w0.heap.size := ⟨_, rfl⟩
  rw [← hg] at st1 ho1 b1 z1 ⊢
  have HG := Lib.hid hg
  have HV := Lib.hid (And.intro iv0 (And.intro iv1 iv2))
  clear hg iv0 iv1 iv2
  go_wp2_with fail
  refine (fin_any g 0 sv ov [] f s _ st1 ho1 z1 (by omega) hov).mono ?_
  rintro e t2 ⟨sv', rfl, n', st2, ho2, b2⟩
  have b12 := b1.trans b2
  clear hov st1 ho1 b1 b2
  go_wp2_with fail
  refine (fin_nil g n' sv' _ _ st2 ho2).mono ?_
  rintro e t3 ⟨sv2, rfl, rfl, st3, ho3, b3⟩
  have b13 : Below g w0 t3 := b12.trans b3
  have hSv := (Sv.of_owns ho3).1
  clear st2 ho2 b12 b3 ho3
  have hgc := HG.out
  have b13c : Below w0.heap.size w0 t3 := by rw [← hgc]; exact b13
  have j0 := HV.out.1.on b13c
  have j1 := HV.out.2.1.on b13c
  have j2 := HV.out.2.2.on b13c
  have bb : Below w0.heap.size w0 t3 := below_on bb0 bb0.size b13c
  clear hgc b13c b13 HV
  go_wp2_with fail
  refine (are_any _ (none) (none) (none) 0 0 0 0 [] f s _ (by omega) rfl j0 j1 j2 hSv).mono ?_
  rintro e t4 ⟨rfl, b4⟩
  go_wp2_with fail
  refine (are_any _ (none) (none) (none) 0 0 0 0 [] f s _ (by omega) rfl (j0.on b4) (j1.on b4) (j2.on b4) (hSv.on b4)).mono ?_
  rintro e t5 ⟨rfl, b5⟩
  have b45 : Below t3.heap.size t3 t5 := below_on b4 b4.size b5
  have c4 : t5.cell? ⟨g, 4, none⟩ = some (.pointer none) := (b45.cell (p := ⟨g, 4, none⟩) (World.block_lt_of_cell? _ _ st3.c4)).trans st3.c4
  go_wp2_with fail
  refine (openNil g _ c4).mono ?_
  rintro e t6 ⟨rfl, rfl⟩
  go_wp2
  go_ret
  exact ⟨rfl, below_on bb bb.size b45⟩

set_option maxRecDepth 100000 in
set_option maxHeartbeats 6400000 in
theorem law_NNS (x2 : Addr) (cap2 : Nat)  (f : Bool) (s : Sp) (w : World)  :
    Calls Try.prog 3 #[.slice none 0 0, .slice none 0 0, .slice (some x2) 0 cap2, .bool f, .int .i64 s.lo, .int .i64 s.hi, .int .i64 s.p] w fun e w' => e = .returned (.bool true) ∧ Below w.heap.size w w' := by
  have hn22 := fun (w : World) a n c => run_neq_slice_nil_any (P := Try.prog) w 22 2 a n c 0 0 Try.underlying22
  have hn23 := fun (w : World) a n c => run_neq_slice_nil_any (P := Try.prog) w 23 3 a n c 0 0 Try.underlying23
  obtain ⟨i2, hi2, hy0, hy1, hy2⟩ := info_parts info2
  obtain ⟨i3, hi3, hx0, hx1, hx2⟩ := info_parts info3
  have hc0 : ∀ (x : Addr) j (h : j < (los []).length), w.cell? (x.add j) = some (.int .i64 (los [])[j]) := fun x j h => by simp [los] at h
  have hc1 : ∀ (x : Addr) j (h : j < (his []).length), w.cell? (x.add j) = some (.int .i64 (his [])[j]) := fun x j h => by simp [his] at h
  have hc2 : ∀ (x : Addr) j (h : j < (pends []).length), w.cell? (x.add j) = some (.int .i64 (pends [])[j]) := fun x j h => by simp [pends] at h
  have l0 : (los []).length = 0 := rfl
  have l1 : (his []).length = 0 := rfl
  have l2 : (pends []).length = 0 := rfl
  have HS := Lib.hid (And.intro hc0 (And.intro hc1 hc2))
  clear hc0 hc1 hc2
  have HB := Lib.hid (And.intro l0 (And.intro l1 l2))
  clear l0 l1 l2
  go_enter Try.func3, Try.ntmps3
  go_wp2_with fail
  refine (zz_small _ _ _ 0 _ _ _ _ _ _ _ w (by omega)).mono ?_
  rintro e w0 ⟨rfl, rfl⟩
  have bb0 : Below w0.heap.size w0 w0 := Below.refl _ _
  go_wp2_with (at_make; refine wpList_make_full _ rfl _ _ 23 rfl w0.heap.size 3 i3 (.int .i64 0) 1 Try.underlying23 hi3 hx0 hx1 .i64 .i64 _ _ 0 rfl rfl rfl rfl (by rw [hx2]; omega) (by unfold maxLen; omega) (Nat.le_refl _) ?_)
  intro m2 hown2 hgrow2
  have bm2 : Below w0.heap.size w0 m2 := (Below.refl _ _).grown hgrow2 (Nat.le_refl _) (fun k hk => by cases hk)
  have bbm2 : Below w0.heap.size w0 m2 := bb0.trans (bm2.mono bb0.size)
  obtain ⟨cur2, hcur2, hsz2⟩ := made_block hown2
  have hsrc2 := ci_src (pends []) x2 w0 m2 bbm2 (HS.out.2.2 x2)
  have iv2 := copied (pends []) HB.out.2.2 hcur2 hsz2
  have bc2 : Below w0.heap.size w0 (m2.setRow w0.heap.size (ci (pends []) ++ cur2.toList.drop (ci (pends [])).length).toArray) := below_setRow bm2 (Nat.le_refl _) _
  have HI2 := Lib.hid (And.intro iv2 (And.intro bc2 (And.intro hsrc2 (And.intro hcur2 hsz2))))
  clear iv2 bc2 hsrc2 hcur2 hsz2 hown2 hgrow2 bm2 bbm2
  go_wp2_with (refine wpList_copy_own rfl (.tmp 74) (.tmp 75) 23 23 rfl 3 Try.underlying23 (by kernel_rfl) w0.heap.size 0 0 0 x2 0 cap2 rfl rfl cur2 3 HI2.out.2.2.2.1 (ci (pends [])) (by rw [ci_length, HB.out.2.2]; simp) HI2.out.2.2.1 (by rw [ci_length, HB.out.2.2, HI2.out.2.2.2.2]; omega) (ci_one _) ?_; refine Hid.out ?_)
  refine Lib.hid ?_
  obtain ⟨v2, hv2⟩ : ∃ v2, v2 = m2.setRow w0.heap.size (ci (pends []) ++ cur2.toList.drop (ci (pends [])).length).toArray := ⟨_, rfl⟩
  rw [← hv2]
  have iv2 := HI2.out.1
  have bc2 := HI2.out.2.1
  rw [← hv2] at iv2 bc2
  clear hv2 HI2
  have bb1 : Below w0.heap.size w0 v2 := bb0.trans (bc2.mono bb0.size)
  clear bc2 bb0
  have iv0 : Iv v2 none (los []) := fun k h => by simp [los] at h
  have iv1 : Iv v2 none (his []) := fun k h => by simp [his] at h
  go_wp2_with fail
  refine (new_core (none) (none) (some ⟨w0.heap.size, 0, none⟩) 0 0 0 0 [] f s.lo s.hi s.p _ (by omega) rfl iv0 iv1 iv2).mono ?_
  rintro e t1 ⟨rfl, sv, ov, st1, ho1, b1, z1, hov⟩
  obtain ⟨g, hg⟩ : ∃ g, g = v2.heap.size := ⟨_, rfl⟩
  rw [← hg] at st1 ho1 b1 z1 ⊢
  have HG := Lib.hid hg
  have HV := Lib.hid (And.intro iv0 (And.intro iv1 iv2))
  clear hg iv0 iv1 iv2
  go_wp2_with fail
  refine (fin_any g 0 sv ov [] f s _ st1 ho1 z1 (by omega) hov).mono ?_
  rintro e t2 ⟨sv', rfl, n', st2, ho2, b2⟩
  have b12 := b1.trans b2
  clear hov st1 ho1 b1 b2
  go_wp2_with fail
  refine (fin_nil g n' sv' _ _ st2 ho2).mono ?_
  rintro e t3 ⟨sv2, rfl, rfl, st3, ho3, b3⟩
  have b13 : Below g v2 t3 := b12.trans b3
  have hSv := (Sv.of_owns ho3).1
  clear st2 ho2 b12 b3 ho3
  have hgc := HG.out
  have b13c : Below v2.heap.size v2 t3 := by rw [← hgc]; exact b13
  have j0 := HV.out.1.on b13c
  have j1 := HV.out.2.1.on b13c
  have j2 := HV.out.2.2.on b13c
  have bb : Below w0.heap.size w0 t3 := below_on bb1 bb1.size b13c
  clear hgc b13c b13 HV
  go_wp2_with fail
  refine (are_any _ (none) (none) (some ⟨w0.heap.size, 0, none⟩) 0 0 0 0 [] f s _ (by omega) rfl j0 j1 j2 hSv).mono ?_
  rintro e t4 ⟨rfl, b4⟩
  go_wp2_with fail
  refine (are_any _ (none) (none) (some ⟨w0.heap.size, 0, none⟩) 0 0 0 0 [] f s _ (by omega) rfl (j0.on b4) (j1.on b4) (j2.on b4) (hSv.on b4)).mono ?_
  rintro e t5 ⟨rfl, b5⟩
  have b45 : Below t3.heap.size t3 t5 := below_on b4 b4.size b5
  have c4 : t5.cell? ⟨g, 4, none⟩ = some (.pointer none) := (b45.cell (p := ⟨g, 4, none⟩) (World.block_lt_of_cell? _ _ st3.c4)).trans st3.c4
  go_wp2_with fail
  refine (openNil g _ c4).mono ?_
  rintro e t6 ⟨rfl, rfl⟩
  go_wp2
  go_ret
  exact ⟨rfl, below_on bb bb.size b45⟩

set_option maxRecDepth 100000 in
set_option maxHeartbeats 6400000 in
theorem law_NSN (x1 : Addr) (cap1 : Nat)  (f : Bool) (s : Sp) (w : World)  :
    Calls Try.prog 3 #[.slice none 0 0, .slice (some x1) 0 cap1, .slice none 0 0, .bool f, .int .i64 s.lo, .int .i64 s.hi, .int .i64 s.p] w fun e w' => e = .returned (.bool true) ∧ Below w.heap.size w w' := by
  have hn22 := fun (w : World) a n c => run_neq_slice_nil_any (P := Try.prog) w 22 2 a n c 0 0 Try.underlying22
  have hn23 := fun (w : World) a n c => run_neq_slice_nil_any (P := Try.prog) w 23 3 a n c 0 0 Try.underlying23
  obtain ⟨i2, hi2, hy0, hy1, hy2⟩ := info_parts info2
  obtain ⟨i3, hi3, hx0, hx1, hx2⟩ := info_parts info3
  have hc0 : ∀ (x : Addr) j (h : j < (los []).length), w.cell? (x.add j) = some (.int .i64 (los [])[j]) := fun x j h => by simp [los] at h
  have hc1 : ∀ (x : Addr) j (h : j < (his []).length), w.cell? (x.add j) = some (.int .i64 (his [])[j]) := fun x j h => by simp [his] at h
  have hc2 : ∀ (x : Addr) j (h : j < (pends []).length), w.cell? (x.add j) = some (.int .i64 (pends [])[j]) := fun x j h => by simp [pends] at h
  have l0 : (los []).length = 0 := rfl
  have l1 : (his []).length = 0 := rfl
  have l2 : (pends []).length = 0 := rfl
  have HS := Lib.hid (And.intro hc0 (And.intro hc1 hc2))
  clear hc0 hc1 hc2
  have HB := Lib.hid (And.intro l0 (And.intro l1 l2))
  clear l0 l1 l2
  go_enter Try.func3, Try.ntmps3
  go_wp2_with fail
  refine (zz_small _ _ _ 0 _ _ _ _ _ _ _ w (by omega)).mono ?_
  rintro e w0 ⟨rfl, rfl⟩
  have bb0 : Below w0.heap.size w0 w0 := Below.refl _ _
  go_wp2_with (at_make; refine wpList_make_full _ rfl _ _ 22 rfl w0.heap.size 2 i2 (.int .i64 0) 1 Try.underlying22 hi2 hy0 hy1 .i64 .i64 _ _ 0 rfl rfl rfl rfl (by rw [hy2]; omega) (by unfold maxLen; omega) (Nat.le_refl _) ?_)
  intro m1 hown1 hgrow1
  have bm1 : Below w0.heap.size w0 m1 := (Below.refl _ _).grown hgrow1 (Nat.le_refl _) (fun k hk => by cases hk)
  have bbm1 : Below w0.heap.size w0 m1 := bb0.trans (bm1.mono bb0.size)
  obtain ⟨cur1, hcur1, hsz1⟩ := made_block hown1
  have hsrc1 := ci_src (his []) x1 w0 m1 bbm1 (HS.out.2.1 x1)
  have iv1 := copied (his []) HB.out.2.1 hcur1 hsz1
  have bc1 : Below w0.heap.size w0 (m1.setRow w0.heap.size (ci (his []) ++ cur1.toList.drop (ci (his [])).length).toArray) := below_setRow bm1 (Nat.le_refl _) _
  have HI1 := Lib.hid (And.intro iv1 (And.intro bc1 (And.intro hsrc1 (And.intro hcur1 hsz1))))
  clear iv1 bc1 hsrc1 hcur1 hsz1 hown1 hgrow1 bm1 bbm1
  go_wp2_with (refine wpList_copy_own rfl (.tmp 65) (.tmp 66) 22 22 rfl 2 Try.underlying22 (by kernel_rfl) w0.heap.size 0 0 0 x1 0 cap1 rfl rfl cur1 2 HI1.out.2.2.2.1 (ci (his [])) (by rw [ci_length, HB.out.2.1]; simp) HI1.out.2.2.1 (by rw [ci_length, HB.out.2.1, HI1.out.2.2.2.2]; omega) (ci_one _) ?_; refine Hid.out ?_)
  refine Lib.hid ?_
  obtain ⟨v1, hv1⟩ : ∃ v1, v1 = m1.setRow w0.heap.size (ci (his []) ++ cur1.toList.drop (ci (his [])).length).toArray := ⟨_, rfl⟩
  rw [← hv1]
  have iv1 := HI1.out.1
  have bc1 := HI1.out.2.1
  rw [← hv1] at iv1 bc1
  clear hv1 HI1
  have bb1 : Below w0.heap.size w0 v1 := bb0.trans (bc1.mono bb0.size)
  clear bc1 bb0
  have iv0 : Iv v1 none (los []) := fun k h => by simp [los] at h
  have iv2 : Iv v1 none (pends []) := fun k h => by simp [pends] at h
  go_wp2_with fail
  refine (new_core (none) (some ⟨w0.heap.size, 0, none⟩) (none) 0 0 0 0 [] f s.lo s.hi s.p _ (by omega) rfl iv0 iv1 iv2).mono ?_
  rintro e t1 ⟨rfl, sv, ov, st1, ho1, b1, z1, hov⟩
  obtain ⟨g, hg⟩ : ∃ g, g = v1.heap.size := ⟨_, rfl⟩
  rw [← hg] at st1 ho1 b1 z1 ⊢
  have HG := Lib.hid hg
  have HV := Lib.hid (And.intro iv0 (And.intro iv1 iv2))
  clear hg iv0 iv1 iv2
  go_wp2_with fail
  refine (fin_any g 0 sv ov [] f s _ st1 ho1 z1 (by omega) hov).mono ?_
  rintro e t2 ⟨sv', rfl, n', st2, ho2, b2⟩
  have b12 := b1.trans b2
  clear hov st1 ho1 b1 b2
  go_wp2_with fail
  refine (fin_nil g n' sv' _ _ st2 ho2).mono ?_
  rintro e t3 ⟨sv2, rfl, rfl, st3, ho3, b3⟩
  have b13 : Below g v1 t3 := b12.trans b3
  have hSv := (Sv.of_owns ho3).1
  clear st2 ho2 b12 b3 ho3
  have hgc := HG.out
  have b13c : Below v1.heap.size v1 t3 := by rw [← hgc]; exact b13
  have j0 := HV.out.1.on b13c
  have j1 := HV.out.2.1.on b13c
  have j2 := HV.out.2.2.on b13c
  have bb : Below w0.heap.size w0 t3 := below_on bb1 bb1.size b13c
  clear hgc b13c b13 HV
  go_wp2_with fail
  refine (are_any _ (none) (some ⟨w0.heap.size, 0, none⟩) (none) 0 0 0 0 [] f s _ (by omega) rfl j0 j1 j2 hSv).mono ?_
  rintro e t4 ⟨rfl, b4⟩
  go_wp2_with fail
  refine (are_any _ (none) (some ⟨w0.heap.size, 0, none⟩) (none) 0 0 0 0 [] f s _ (by omega) rfl (j0.on b4) (j1.on b4) (j2.on b4) (hSv.on b4)).mono ?_
  rintro e t5 ⟨rfl, b5⟩
  have b45 : Below t3.heap.size t3 t5 := below_on b4 b4.size b5
  have c4 : t5.cell? ⟨g, 4, none⟩ = some (.pointer none) := (b45.cell (p := ⟨g, 4, none⟩) (World.block_lt_of_cell? _ _ st3.c4)).trans st3.c4
  go_wp2_with fail
  refine (openNil g _ c4).mono ?_
  rintro e t6 ⟨rfl, rfl⟩
  go_wp2
  go_ret
  exact ⟨rfl, below_on bb bb.size b45⟩

set_option maxRecDepth 100000 in
set_option maxHeartbeats 6400000 in
theorem law_NSS (x1 : Addr) (cap1 : Nat) (x2 : Addr) (cap2 : Nat)  (f : Bool) (s : Sp) (w : World)  :
    Calls Try.prog 3 #[.slice none 0 0, .slice (some x1) 0 cap1, .slice (some x2) 0 cap2, .bool f, .int .i64 s.lo, .int .i64 s.hi, .int .i64 s.p] w fun e w' => e = .returned (.bool true) ∧ Below w.heap.size w w' := by
  have hn22 := fun (w : World) a n c => run_neq_slice_nil_any (P := Try.prog) w 22 2 a n c 0 0 Try.underlying22
  have hn23 := fun (w : World) a n c => run_neq_slice_nil_any (P := Try.prog) w 23 3 a n c 0 0 Try.underlying23
  obtain ⟨i2, hi2, hy0, hy1, hy2⟩ := info_parts info2
  obtain ⟨i3, hi3, hx0, hx1, hx2⟩ := info_parts info3
  have hc0 : ∀ (x : Addr) j (h : j < (los []).length), w.cell? (x.add j) = some (.int .i64 (los [])[j]) := fun x j h => by simp [los] at h
  have hc1 : ∀ (x : Addr) j (h : j < (his []).length), w.cell? (x.add j) = some (.int .i64 (his [])[j]) := fun x j h => by simp [his] at h
  have hc2 : ∀ (x : Addr) j (h : j < (pends []).length), w.cell? (x.add j) = some (.int .i64 (pends [])[j]) := fun x j h => by simp [pends] at h
  have l0 : (los []).length = 0 := rfl
  have l1 : (his []).length = 0 := rfl
  have l2 : (pends []).length = 0 := rfl
  have HS := Lib.hid (And.intro hc0 (And.intro hc1 hc2))
  clear hc0 hc1 hc2
  have HB := Lib.hid (And.intro l0 (And.intro l1 l2))
  clear l0 l1 l2
  go_enter Try.func3, Try.ntmps3
  go_wp2_with fail
  refine (zz_small _ _ _ 0 _ _ _ _ _ _ _ w (by omega)).mono ?_
  rintro e w0 ⟨rfl, rfl⟩
  have bb0 : Below w0.heap.size w0 w0 := Below.refl _ _
  go_wp2_with (at_make; refine wpList_make_full _ rfl _ _ 22 rfl w0.heap.size 2 i2 (.int .i64 0) 1 Try.underlying22 hi2 hy0 hy1 .i64 .i64 _ _ 0 rfl rfl rfl rfl (by rw [hy2]; omega) (by unfold maxLen; omega) (Nat.le_refl _) ?_)
  intro m1 hown1 hgrow1
  have bm1 : Below w0.heap.size w0 m1 := (Below.refl _ _).grown hgrow1 (Nat.le_refl _) (fun k hk => by cases hk)
  have bbm1 : Below w0.heap.size w0 m1 := bb0.trans (bm1.mono bb0.size)
  obtain ⟨cur1, hcur1, hsz1⟩ := made_block hown1
  have hsrc1 := ci_src (his []) x1 w0 m1 bbm1 (HS.out.2.1 x1)
  have iv1 := copied (his []) HB.out.2.1 hcur1 hsz1
  have bc1 : Below w0.heap.size w0 (m1.setRow w0.heap.size (ci (his []) ++ cur1.toList.drop (ci (his [])).length).toArray) := below_setRow bm1 (Nat.le_refl _) _
  have HI1 := Lib.hid (And.intro iv1 (And.intro bc1 (And.intro hsrc1 (And.intro hcur1 hsz1))))
  clear iv1 bc1 hsrc1 hcur1 hsz1 hown1 hgrow1 bm1 bbm1
  go_wp2_with (refine wpList_copy_own rfl (.tmp 65) (.tmp 66) 22 22 rfl 2 Try.underlying22 (by kernel_rfl) w0.heap.size 0 0 0 x1 0 cap1 rfl rfl cur1 2 HI1.out.2.2.2.1 (ci (his [])) (by rw [ci_length, HB.out.2.1]; simp) HI1.out.2.2.1 (by rw [ci_length, HB.out.2.1, HI1.out.2.2.2.2]; omega) (ci_one _) ?_; refine Hid.out ?_)
  refine Lib.hid ?_
  obtain ⟨v1, hv1⟩ : ∃ v1, v1 = m1.setRow w0.heap.size (ci (his []) ++ cur1.toList.drop (ci (his [])).length).toArray := ⟨_, rfl⟩
  rw [← hv1]
  have iv1 := HI1.out.1
  have bc1 := HI1.out.2.1
  rw [← hv1] at iv1 bc1
  clear hv1 HI1
  have bb1 : Below w0.heap.size w0 v1 := bb0.trans (bc1.mono bb0.size)
  clear bc1 bb0
  go_wp2_with (at_make; refine wpList_make_full _ rfl _ _ 23 rfl v1.heap.size 3 i3 (.int .i64 0) 1 Try.underlying23 hi3 hx0 hx1 .i64 .i64 _ _ 0 rfl rfl rfl rfl (by rw [hx2]; omega) (by unfold maxLen; omega) (Nat.le_refl _) ?_)
  intro m2 hown2 hgrow2
  have bm2 : Below v1.heap.size v1 m2 := (Below.refl _ _).grown hgrow2 (Nat.le_refl _) (fun k hk => by cases hk)
  have bbm2 : Below w0.heap.size w0 m2 := bb1.trans (bm2.mono bb1.size)
  obtain ⟨cur2, hcur2, hsz2⟩ := made_block hown2
  have hsrc2 := ci_src (pends []) x2 w0 m2 bbm2 (HS.out.2.2 x2)
  have iv2 := copied (pends []) HB.out.2.2 hcur2 hsz2
  have bc2 : Below v1.heap.size v1 (m2.setRow v1.heap.size (ci (pends []) ++ cur2.toList.drop (ci (pends [])).length).toArray) := below_setRow bm2 (Nat.le_refl _) _
  have HI2 := Lib.hid (And.intro iv2 (And.intro bc2 (And.intro hsrc2 (And.intro hcur2 hsz2))))
  clear iv2 bc2 hsrc2 hcur2 hsz2 hown2 hgrow2 bm2 bbm2
  go_wp2_with (refine wpList_copy_own rfl (.tmp 74) (.tmp 75) 23 23 rfl 3 Try.underlying23 (by kernel_rfl) v1.heap.size 0 0 0 x2 0 cap2 rfl rfl cur2 3 HI2.out.2.2.2.1 (ci (pends [])) (by rw [ci_length, HB.out.2.2]; simp) HI2.out.2.2.1 (by rw [ci_length, HB.out.2.2, HI2.out.2.2.2.2]; omega) (ci_one _) ?_; refine Hid.out ?_)
  refine Lib.hid ?_
  obtain ⟨v2, hv2⟩ : ∃ v2, v2 = m2.setRow v1.heap.size (ci (pends []) ++ cur2.toList.drop (ci (pends [])).length).toArray := ⟨_, rfl⟩
  rw [← hv2]
  have iv2 := HI2.out.1
  have bc2 := HI2.out.2.1
  rw [← hv2] at iv2 bc2
  clear hv2 HI2
  have bb2 : Below w0.heap.size w0 v2 := bb1.trans (bc2.mono bb1.size)
  have iv1' := iv1.on bc2
  clear iv1
  have iv1 := iv1'
  clear iv1'
  clear bc2 bb1
  have iv0 : Iv v2 none (los []) := fun k h => by simp [los] at h
  go_wp2_with fail
  refine (new_core (none) (some ⟨w0.heap.size, 0, none⟩) (some ⟨v1.heap.size, 0, none⟩) 0 0 0 0 [] f s.lo s.hi s.p _ (by omega) rfl iv0 iv1 iv2).mono ?_
  rintro e t1 ⟨rfl, sv, ov, st1, ho1, b1, z1, hov⟩
  obtain ⟨g, hg⟩ : ∃ g, g = v2.heap.size := ⟨_, rfl⟩
  rw [← hg] at st1 ho1 b1 z1 ⊢
  have HG := Lib.hid hg
  have HV := Lib.hid (And.intro iv0 (And.intro iv1 iv2))
  clear hg iv0 iv1 iv2
  go_wp2_with fail
  refine (fin_any g 0 sv ov [] f s _ st1 ho1 z1 (by omega) hov).mono ?_
  rintro e t2 ⟨sv', rfl, n', st2, ho2, b2⟩
  have b12 := b1.trans b2
  clear hov st1 ho1 b1 b2
  go_wp2_with fail
  refine (fin_nil g n' sv' _ _ st2 ho2).mono ?_
  rintro e t3 ⟨sv2, rfl, rfl, st3, ho3, b3⟩
  have b13 : Below g v2 t3 := b12.trans b3
  have hSv := (Sv.of_owns ho3).1
  clear st2 ho2 b12 b3 ho3
  have hgc := HG.out
  have b13c : Below v2.heap.size v2 t3 := by rw [← hgc]; exact b13
  have j0 := HV.out.1.on b13c
  have j1 := HV.out.2.1.on b13c
  have j2 := HV.out.2.2.on b13c
  have bb : Below w0.heap.size w0 t3 := below_on bb2 bb2.size b13c
  clear hgc b13c b13 HV
  go_wp2_with fail
  refine (are_any _ (none) (some ⟨w0.heap.size, 0, none⟩) (some ⟨v1.heap.size, 0, none⟩) 0 0 0 0 [] f s _ (by omega) rfl j0 j1 j2 hSv).mono ?_
  rintro e t4 ⟨rfl, b4⟩
  go_wp2_with fail
  refine (are_any _ (none) (some ⟨w0.heap.size, 0, none⟩) (some ⟨v1.heap.size, 0, none⟩) 0 0 0 0 [] f s _ (by omega) rfl (j0.on b4) (j1.on b4) (j2.on b4) (hSv.on b4)).mono ?_
  rintro e t5 ⟨rfl, b5⟩
  have b45 : Below t3.heap.size t3 t5 := below_on b4 b4.size b5
  have c4 : t5.cell? ⟨g, 4, none⟩ = some (.pointer none) := (b45.cell (p := ⟨g, 4, none⟩) (World.block_lt_of_cell? _ _ st3.c4)).trans st3.c4
  go_wp2_with fail
  refine (openNil g _ c4).mono ?_
  rintro e t6 ⟨rfl, rfl⟩
  go_wp2
  go_ret
  exact ⟨rfl, below_on bb bb.size b45⟩

set_option maxRecDepth 100000 in
set_option maxHeartbeats 6400000 in
theorem law_SNN (x0 : Addr) (cap0 : Nat)  (f : Bool) (s : Sp) (w : World)  :
    Calls Try.prog 3 #[.slice (some x0) 0 cap0, .slice none 0 0, .slice none 0 0, .bool f, .int .i64 s.lo, .int .i64 s.hi, .int .i64 s.p] w fun e w' => e = .returned (.bool true) ∧ Below w.heap.size w w' := by
  have hn22 := fun (w : World) a n c => run_neq_slice_nil_any (P := Try.prog) w 22 2 a n c 0 0 Try.underlying22
  have hn23 := fun (w : World) a n c => run_neq_slice_nil_any (P := Try.prog) w 23 3 a n c 0 0 Try.underlying23
  obtain ⟨i2, hi2, hy0, hy1, hy2⟩ := info_parts info2
  obtain ⟨i3, hi3, hx0, hx1, hx2⟩ := info_parts info3
  have hc0 : ∀ (x : Addr) j (h : j < (los []).length), w.cell? (x.add j) = some (.int .i64 (los [])[j]) := fun x j h => by simp [los] at h
  have hc1 : ∀ (x : Addr) j (h : j < (his []).length), w.cell? (x.add j) = some (.int .i64 (his [])[j]) := fun x j h => by simp [his] at h
  have hc2 : ∀ (x : Addr) j (h : j < (pends []).length), w.cell? (x.add j) = some (.int .i64 (pends [])[j]) := fun x j h => by simp [pends] at h
  have l0 : (los []).length = 0 := rfl
  have l1 : (his []).length = 0 := rfl
  have l2 : (pends []).length = 0 := rfl
  have HS := Lib.hid (And.intro hc0 (And.intro hc1 hc2))
  clear hc0 hc1 hc2
  have HB := Lib.hid (And.intro l0 (And.intro l1 l2))
  clear l0 l1 l2
  go_enter Try.func3, Try.ntmps3
  go_wp2_with fail
  refine (zz_small _ _ _ 0 _ _ _ _ _ _ _ w (by omega)).mono ?_
  rintro e w0 ⟨rfl, rfl⟩
  have bb0 : Below w0.heap.size w0 w0 := Below.refl _ _
  go_wp2_with (at_make; refine wpList_make_full _ rfl _ _ 22 rfl w0.heap.size 2 i2 (.int .i64 0) 1 Try.underlying22 hi2 hy0 hy1 .i64 .i64 _ _ 0 rfl rfl rfl rfl (by rw [hy2]; omega) (by unfold maxLen; omega) (Nat.le_refl _) ?_)
  intro m0 hown0 hgrow0
  have bm0 : Below w0.heap.size w0 m0 := (Below.refl _ _).grown hgrow0 (Nat.le_refl _) (fun k hk => by cases hk)
  have bbm0 : Below w0.heap.size w0 m0 := bb0.trans (bm0.mono bb0.size)
  obtain ⟨cur0, hcur0, hsz0⟩ := made_block hown0
  have hsrc0 := ci_src (los []) x0 w0 m0 bbm0 (HS.out.1 x0)
  have iv0 := copied (los []) HB.out.1 hcur0 hsz0
  have bc0 : Below w0.heap.size w0 (m0.setRow w0.heap.size (ci (los []) ++ cur0.toList.drop (ci (los [])).length).toArray) := below_setRow bm0 (Nat.le_refl _) _
  have HI0 := Lib.hid (And.intro iv0 (And.intro bc0 (And.intro hsrc0 (And.intro hcur0 hsz0))))
  clear iv0 bc0 hsrc0 hcur0 hsz0 hown0 hgrow0 bm0 bbm0
  go_wp2_with (refine wpList_copy_own rfl (.tmp 56) (.tmp 57) 22 22 rfl 2 Try.underlying22 (by kernel_rfl) w0.heap.size 0 0 0 x0 0 cap0 rfl rfl cur0 2 HI0.out.2.2.2.1 (ci (los [])) (by rw [ci_length, HB.out.1]; simp) HI0.out.2.2.1 (by rw [ci_length, HB.out.1, HI0.out.2.2.2.2]; omega) (ci_one _) ?_; refine Hid.out ?_)
  refine Lib.hid ?_
  obtain ⟨v0, hv0⟩ : ∃ v0, v0 = m0.setRow w0.heap.size (ci (los []) ++ cur0.toList.drop (ci (los [])).length).toArray := ⟨_, rfl⟩
  rw [← hv0]
  have iv0 := HI0.out.1
  have bc0 := HI0.out.2.1
  rw [← hv0] at iv0 bc0
  clear hv0 HI0
  have bb1 : Below w0.heap.size w0 v0 := bb0.trans (bc0.mono bb0.size)
  clear bc0 bb0
  have iv1 : Iv v0 none (his []) := fun k h => by simp [his] at h
  have iv2 : Iv v0 none (pends []) := fun k h => by simp [pends] at h
  go_wp2_with fail
  refine (new_core (some ⟨w0.heap.size, 0, none⟩) (none) (none) 0 0 0 0 [] f s.lo s.hi s.p _ (by omega) rfl iv0 iv1 iv2).mono ?_
  rintro e t1 ⟨rfl, sv, ov, st1, ho1, b1, z1, hov⟩
  obtain ⟨g, hg⟩ : ∃ g, g = v0.heap.size := ⟨_, rfl⟩
  rw [← hg] at st1 ho1 b1 z1 ⊢
  have HG := Lib.hid hg
  have HV := Lib.hid (And.intro iv0 (And.intro iv1 iv2))
  clear hg iv0 iv1 iv2
  go_wp2_with fail
  refine (fin_any g 0 sv ov [] f s _ st1 ho1 z1 (by omega) hov).mono ?_
  rintro e t2 ⟨sv', rfl, n', st2, ho2, b2⟩
  have b12 := b1.trans b2
  clear hov st1 ho1 b1 b2
  go_wp2_with fail
  refine (fin_nil g n' sv' _ _ st2 ho2).mono ?_
  rintro e t3 ⟨sv2, rfl, rfl, st3, ho3, b3⟩
  have b13 : Below g v0 t3 := b12.trans b3
  have hSv := (Sv.of_owns ho3).1
  clear st2 ho2 b12 b3 ho3
  have hgc := HG.out
  have b13c : Below v0.heap.size v0 t3 := by rw [← hgc]; exact b13
  have j0 := HV.out.1.on b13c
  have j1 := HV.out.2.1.on b13c
  have j2 := HV.out.2.2.on b13c
  have bb : Below w0.heap.size w0 t3 := below_on bb1 bb1.size b13c
  clear hgc b13c b13 HV
  go_wp2_with fail
  refine (are_any _ (some ⟨w0.heap.size, 0, none⟩) (none) (none) 0 0 0 0 [] f s _ (by omega) rfl j0 j1 j2 hSv).mono ?_
  rintro e t4 ⟨rfl, b4⟩
  go_wp2_with fail
  refine (are_any _ (some ⟨w0.heap.size, 0, none⟩) (none) (none) 0 0 0 0 [] f s _ (by omega) rfl (j0.on b4) (j1.on b4) (j2.on b4) (hSv.on b4)).mono ?_
  rintro e t5 ⟨rfl, b5⟩
  have b45 : Below t3.heap.size t3 t5 := below_on b4 b4.size b5
  have c4 : t5.cell? ⟨g, 4, none⟩ = some (.pointer none) := (b45.cell (p := ⟨g, 4, none⟩) (World.block_lt_of_cell? _ _ st3.c4)).trans st3.c4
  go_wp2_with fail
  refine (openNil g _ c4).mono ?_
  rintro e t6 ⟨rfl, rfl⟩
  go_wp2
  go_ret
  exact ⟨rfl, below_on bb bb.size b45⟩

set_option maxRecDepth 100000 in
set_option maxHeartbeats 6400000 in
theorem law_SNS (x0 : Addr) (cap0 : Nat) (x2 : Addr) (cap2 : Nat)  (f : Bool) (s : Sp) (w : World)  :
    Calls Try.prog 3 #[.slice (some x0) 0 cap0, .slice none 0 0, .slice (some x2) 0 cap2, .bool f, .int .i64 s.lo, .int .i64 s.hi, .int .i64 s.p] w fun e w' => e = .returned (.bool true) ∧ Below w.heap.size w w' := by
  have hn22 := fun (w : World) a n c => run_neq_slice_nil_any (P := Try.prog) w 22 2 a n c 0 0 Try.underlying22
  have hn23 := fun (w : World) a n c => run_neq_slice_nil_any (P := Try.prog) w 23 3 a n c 0 0 Try.underlying23
  obtain ⟨i2, hi2, hy0, hy1, hy2⟩ := info_parts info2
  obtain ⟨i3, hi3, hx0, hx1, hx2⟩ := info_parts info3
  have hc0 : ∀ (x : Addr) j (h : j < (los []).length), w.cell? (x.add j) = some (.int .i64 (los [])[j]) := fun x j h => by simp [los] at h
  have hc1 : ∀ (x : Addr) j (h : j < (his []).length), w.cell? (x.add j) = some (.int .i64 (his [])[j]) := fun x j h => by simp [his] at h
  have hc2 : ∀ (x : Addr) j (h : j < (pends []).length), w.cell? (x.add j) = some (.int .i64 (pends [])[j]) := fun x j h => by simp [pends] at h
  have l0 : (los []).length = 0 := rfl
  have l1 : (his []).length = 0 := rfl
  have l2 : (pends []).length = 0 := rfl
  have HS := Lib.hid (And.intro hc0 (And.intro hc1 hc2))
  clear hc0 hc1 hc2
  have HB := Lib.hid (And.intro l0 (And.intro l1 l2))
  clear l0 l1 l2
  go_enter Try.func3, Try.ntmps3
  go_wp2_with fail
  refine (zz_small _ _ _ 0 _ _ _ _ _ _ _ w (by omega)).mono ?_
  rintro e w0 ⟨rfl, rfl⟩
  have bb0 : Below w0.heap.size w0 w0 := Below.refl _ _
  go_wp2_with (at_make; refine wpList_make_full _ rfl _ _ 22 rfl w0.heap.size 2 i2 (.int .i64 0) 1 Try.underlying22 hi2 hy0 hy1 .i64 .i64 _ _ 0 rfl rfl rfl rfl (by rw [hy2]; omega) (by unfold maxLen; omega) (Nat.le_refl _) ?_)
  intro m0 hown0 hgrow0
  have bm0 : Below w0.heap.size w0 m0 := (Below.refl _ _).grown hgrow0 (Nat.le_refl _) (fun k hk => by cases hk)
  have bbm0 : Below w0.heap.size w0 m0 := bb0.trans (bm0.mono bb0.size)
  obtain ⟨cur0, hcur0, hsz0⟩ := made_block hown0
  have hsrc0 := ci_src (los []) x0 w0 m0 bbm0 (HS.out.1 x0)
  have iv0 := copied (los []) HB.out.1 hcur0 hsz0
  have bc0 : Below w0.heap.size w0 (m0.setRow w0.heap.size (ci (los []) ++ cur0.toList.drop (ci (los [])).length).toArray) := below_setRow bm0 (Nat.le_refl _) _
  have HI0 := Lib.hid (And.intro iv0 (And.intro bc0 (And.intro hsrc0 (And.intro hcur0 hsz0))))
  clear iv0 bc0 hsrc0 hcur0 hsz0 hown0 hgrow0 bm0 bbm0
  go_wp2_with (refine wpList_copy_own rfl (.tmp 56) (.tmp 57) 22 22 rfl 2 Try.underlying22 (by kernel_rfl) w0.heap.size 0 0 0 x0 0 cap0 rfl rfl cur0 2 HI0.out.2.2.2.1 (ci (los [])) (by rw [ci_length, HB.out.1]; simp) HI0.out.2.2.1 (by rw [ci_length, HB.out.1, HI0.out.2.2.2.2]; omega) (ci_one _) ?_; refine Hid.out ?_)
  refine Lib.hid ?_
  obtain ⟨v0, hv0⟩ : ∃ v0, v0 = m0.setRow w0.heap.size (ci (los []) ++ cur0.toList.drop (ci (los [])).length).toArray := ⟨_, rfl⟩
  rw [← hv0]
  have iv0 := HI0.out.1
  have bc0 := HI0.out.2.1
  rw [← hv0] at iv0 bc0
  clear hv0 HI0
  have bb1 : Below w0.heap.size w0 v0 := bb0.trans (bc0.mono bb0.size)
  clear bc0 bb0
  go_wp2_with (at_make; refine wpList_make_full _ rfl _ _ 23 rfl v0.heap.size 3 i3 (.int .i64 0) 1 Try.underlying23 hi3 hx0 hx1 .i64 .i64 _ _ 0 rfl rfl rfl rfl (by rw [hx2]; omega) (by unfold maxLen; omega) (Nat.le_refl _) ?_)
  intro m2 hown2 hgrow2
  have bm2 : Below v0.heap.size v0 m2 := (Below.refl _ _).grown hgrow2 (Nat.le_refl _) (fun k hk => by cases hk)
  have bbm2 : Below w0.heap.size w0 m2 := bb1.trans (bm2.mono bb1.size)
  obtain ⟨cur2, hcur2, hsz2⟩ := made_block hown2
  have hsrc2 := ci_src (pends []) x2 w0 m2 bbm2 (HS.out.2.2 x2)
  have iv2 := copied (pends []) HB.out.2.2 hcur2 hsz2
  have bc2 : Below v0.heap.size v0 (m2.setRow v0.heap.size (ci (pends []) ++ cur2.toList.drop (ci (pends [])).length).toArray) := below_setRow bm2 (Nat.le_refl _) _
  have HI2 := Lib.hid (And.intro iv2 (And.intro bc2 (And.intro hsrc2 (And.intro hcur2 hsz2))))
  clear iv2 bc2 hsrc2 hcur2 hsz2 hown2 hgrow2 bm2 bbm2
  go_wp2_with (refine wpList_copy_own rfl (.tmp 74) (.tmp 75) 23 23 rfl 3 Try.underlying23 (by kernel_rfl) v0.heap.size 0 0 0 x2 0 cap2 rfl rfl cur2 3 HI2.out.2.2.2.1 (ci (pends [])) (by rw [ci_length, HB.out.2.2]; simp) HI2.out.2.2.1 (by rw [ci_length, HB.out.2.2, HI2.out.2.2.2.2]; omega) (ci_one _) ?_; refine Hid.out ?_)
  refine Lib.hid ?_
  obtain ⟨v2, hv2⟩ : ∃ v2, v2 = m2.setRow v0.heap.size (ci (pends []) ++ cur2.toList.drop (ci (pends [])).length).toArray := ⟨_, rfl⟩
  rw [← hv2]
  have iv2 := HI2.out.1
  have bc2 := HI2.out.2.1
  rw [← hv2] at iv2 bc2
  clear hv2 HI2
  have bb2 : Below w0.heap.size w0 v2 := bb1.trans (bc2.mono bb1.size)
  have iv0' := iv0.on bc2
  clear iv0
  have iv0 := iv0'
  clear iv0'
  clear bc2 bb1
  have iv1 : Iv v2 none (his []) := fun k h => by simp [his] at h
  go_wp2_with fail
  refine (new_core (some ⟨w0.heap.size, 0, none⟩) (none) (some ⟨v0.heap.size, 0, none⟩) 0 0 0 0 [] f s.lo s.hi s.p _ (by omega) rfl iv0 iv1 iv2).mono ?_
  rintro e t1 ⟨rfl, sv, ov, st1, ho1, b1, z1, hov⟩
  obtain ⟨g, hg⟩ : ∃ g, g = v2.heap.size := ⟨_, rfl⟩
  rw [← hg] at st1 ho1 b1 z1 ⊢
  have HG := Lib.hid hg
  have HV := Lib.hid (And.intro iv0 (And.intro iv1 iv2))
  clear hg iv0 iv1 iv2
  go_wp2_with fail
  refine (fin_any g 0 sv ov [] f s _ st1 ho1 z1 (by omega) hov).mono ?_
  rintro e t2 ⟨sv', rfl, n', st2, ho2, b2⟩
  have b12 := b1.trans b2
  clear hov st1 ho1 b1 b2
  go_wp2_with fail
  refine (fin_nil g n' sv' _ _ st2 ho2).mono ?_
  rintro e t3 ⟨sv2, rfl, rfl, st3, ho3, b3⟩
  have b13 : Below g v2 t3 := b12.trans b3
  have hSv := (Sv.of_owns ho3).1
  clear st2 ho2 b12 b3 ho3
  have hgc := HG.out
  have b13c : Below v2.heap.size v2 t3 := by rw [← hgc]; exact b13
  have j0 := HV.out.1.on b13c
  have j1 := HV.out.2.1.on b13c
  have j2 := HV.out.2.2.on b13c
  have bb : Below w0.heap.size w0 t3 := below_on bb2 bb2.size b13c
  clear hgc b13c b13 HV
  go_wp2_with fail
  refine (are_any _ (some ⟨w0.heap.size, 0, none⟩) (none) (some ⟨v0.heap.size, 0, none⟩) 0 0 0 0 [] f s _ (by omega) rfl j0 j1 j2 hSv).mono ?_
  rintro e t4 ⟨rfl, b4⟩
  go_wp2_with fail
  refine (are_any _ (some ⟨w0.heap.size, 0, none⟩) (none) (some ⟨v0.heap.size, 0, none⟩) 0 0 0 0 [] f s _ (by omega) rfl (j0.on b4) (j1.on b4) (j2.on b4) (hSv.on b4)).mono ?_
  rintro e t5 ⟨rfl, b5⟩
  have b45 : Below t3.heap.size t3 t5 := below_on b4 b4.size b5
  have c4 : t5.cell? ⟨g, 4, none⟩ = some (.pointer none) := (b45.cell (p := ⟨g, 4, none⟩) (World.block_lt_of_cell? _ _ st3.c4)).trans st3.c4
  go_wp2_with fail
  refine (openNil g _ c4).mono ?_
  rintro e t6 ⟨rfl, rfl⟩
  go_wp2
  go_ret
  exact ⟨rfl, below_on bb bb.size b45⟩

set_option maxRecDepth 100000 in
set_option maxHeartbeats 6400000 in
theorem law_SSN (x0 : Addr) (cap0 : Nat) (x1 : Addr) (cap1 : Nat)  (f : Bool) (s : Sp) (w : World)  :
    Calls Try.prog 3 #[.slice (some x0) 0 cap0, .slice (some x1) 0 cap1, .slice none 0 0, .bool f, .int .i64 s.lo, .int .i64 s.hi, .int .i64 s.p] w fun e w' => e = .returned (.bool true) ∧ Below w.heap.size w w' := by
  have hn22 := fun (w : World) a n c => run_neq_slice_nil_any (P := Try.prog) w 22 2 a n c 0 0 Try.underlying22
  have hn23 := fun (w : World) a n c => run_neq_slice_nil_any (P := Try.prog) w 23 3 a n c 0 0 Try.underlying23
  obtain ⟨i2, hi2, hy0, hy1, hy2⟩ := info_parts info2
  obtain ⟨i3, hi3, hx0, hx1, hx2⟩ := info_parts info3
  have hc0 : ∀ (x : Addr) j (h : j < (los []).length), w.cell? (x.add j) = some (.int .i64 (los [])[j]) := fun x j h => by simp [los] at h
  have hc1 : ∀ (x : Addr) j (h : j < (his []).length), w.cell? (x.add j) = some (.int .i64 (his [])[j]) := fun x j h => by simp [his] at h
  have hc2 : ∀ (x : Addr) j (h : j < (pends []).length), w.cell? (x.add j) = some (.int .i64 (pends [])[j]) := fun x j h => by simp [pends] at h
  have l0 : (los []).length = 0 := rfl
  have l1 : (his []).length = 0 := rfl
  have l2 : (pends []).length = 0 := rfl
  have HS := Lib.hid (And.intro hc0 (And.intro hc1 hc2))
  clear hc0 hc1 hc2
  have HB := Lib.hid (And.intro l0 (And.intro l1 l2))
  clear l0 l1 l2
  go_enter Try.func3, Try.ntmps3
  go_wp2_with fail
  refine (zz_small _ _ _ 0 _ _ _ _ _ _ _ w (by omega)).mono ?_
  rintro e w0 ⟨rfl, rfl⟩
  have bb0 : Below w0.heap.size w0 w0 := Below.refl _ _
  go_wp2_with (at_make; refine wpList_make_full _ rfl _ _ 22 rfl w0.heap.size 2 i2 (.int .i64 0) 1 Try.underlying22 hi2 hy0 hy1 .i64 .i64 _ _ 0 rfl rfl rfl rfl (by rw [hy2]; omega) (by unfold maxLen; omega) (Nat.le_refl _) ?_)
  intro m0 hown0 hgrow0
  have bm0 : Below w0.heap.size w0 m0 := (Below.refl _ _).grown hgrow0 (Nat.le_refl _) (fun k hk => by cases hk)
  have bbm0 : Below w0.heap.size w0 m0 := bb0.trans (bm0.mono bb0.size)
  obtain ⟨cur0, hcur0, hsz0⟩ := made_block hown0
  have hsrc0 := ci_src (los []) x0 w0 m0 bbm0 (HS.out.1 x0)
  have iv0 := copied (los []) HB.out.1 hcur0 hsz0
  have bc0 : Below w0.heap.size w0 (m0.setRow w0.heap.size (ci (los []) ++ cur0.toList.drop (ci (los [])).length).toArray) := below_setRow bm0 (Nat.le_refl _) _
  have HI0 := Lib.hid (And.intro iv0 (And.intro bc0 (And.intro hsrc0 (And.intro hcur0 hsz0))))
  clear iv0 bc0 hsrc0 hcur0 hsz0 hown0 hgrow0 bm0 bbm0
  go_wp2_with (refine wpList_copy_own rfl (.tmp 56) (.tmp 57) 22 22 rfl 2 Try.underlying22 (by kernel_rfl) w0.heap.size 0 0 0 x0 0 cap0 rfl rfl cur0 2 HI0.out.2.2.2.1 (ci (los [])) (by rw [ci_length, HB.out.1]; simp) HI0.out.2.2.1 (by rw [ci_length, HB.out.1, HI0.out.2.2.2.2]; omega) (ci_one _) ?_; refine Hid.out ?_)
  refine Lib.hid ?_
  obtain ⟨v0, hv0⟩ : ∃ v0, v0 = m0.setRow w0.heap.size (ci (los []) ++ cur0.toList.drop (ci (los [])).length).toArray := ⟨_, rfl⟩
  rw [← hv0]
  have iv0 := HI0.out.1
  have bc0 := HI0.out.2.1
  rw [← hv0] at iv0 bc0
  clear hv0 HI0
  have bb1 : Below w0.heap.size w0 v0 := bb0.trans (bc0.mono bb0.size)
  clear bc0 bb0
  go_wp2_with (at_make; refine wpList_make_full _ rfl _ _ 22 rfl v0.heap.size 2 i2 (.int .i64 0) 1 Try.underlying22 hi2 hy0 hy1 .i64 .i64 _ _ 0 rfl rfl rfl rfl (by rw [hy2]; omega) (by unfold maxLen; omega) (Nat.le_refl _) ?_)
  intro m1 hown1 hgrow1
  have bm1 : Below v0.heap.size v0 m1 := (Below.refl _ _).grown hgrow1 (Nat.le_refl _) (fun k hk => by cases hk)
  have bbm1 : Below w0.heap.size w0 m1 := bb1.trans (bm1.mono bb1.size)
  obtain ⟨cur1, hcur1, hsz1⟩ := made_block hown1
  have hsrc1 := ci_src (his []) x1 w0 m1 bbm1 (HS.out.2.1 x1)
  have iv1 := copied (his []) HB.out.2.1 hcur1 hsz1
  have bc1 : Below v0.heap.size v0 (m1.setRow v0.heap.size (ci (his []) ++ cur1.toList.drop (ci (his [])).length).toArray) := below_setRow bm1 (Nat.le_refl _) _
  have HI1 := Lib.hid (And.intro iv1 (And.intro bc1 (And.intro hsrc1 (And.intro hcur1 hsz1))))
  clear iv1 bc1 hsrc1 hcur1 hsz1 hown1 hgrow1 bm1 bbm1
  go_wp2_with (refine wpList_copy_own rfl (.tmp 65) (.tmp 66) 22 22 rfl 2 Try.underlying22 (by kernel_rfl) v0.heap.size 0 0 0 x1 0 cap1 rfl rfl cur1 2 HI1.out.2.2.2.1 (ci (his [])) (by rw [ci_length, HB.out.2.1]; simp) HI1.out.2.2.1 (by rw [ci_length, HB.out.2.1, HI1.out.2.2.2.2]; omega) (ci_one _) ?_; refine Hid.out ?_)
  refine Lib.hid ?_
  obtain ⟨v1, hv1⟩ : ∃ v1, v1 = m1.setRow v0.heap.size (ci (his []) ++ cur1.toList.drop (ci (his [])).length).toArray := ⟨_, rfl⟩
  rw [← hv1]
  have iv1 := HI1.out.1
  have bc1 := HI1.out.2.1
  rw [← hv1] at iv1 bc1
  clear hv1 HI1
  have bb2 : Below w0.heap.size w0 v1 := bb1.trans (bc1.mono bb1.size)
  have iv0' := iv0.on bc1
  clear iv0
  have iv0 := iv0'
  clear iv0'
  clear bc1 bb1
  have iv2 : Iv v1 none (pends []) := fun k h => by simp [pends] at h
  go_wp2_with fail
  refine (new_core (some ⟨w0.heap.size, 0, none⟩) (some ⟨v0.heap.size, 0, none⟩) (none) 0 0 0 0 [] f s.lo s.hi s.p _ (by omega) rfl iv0 iv1 iv2).mono ?_
  rintro e t1 ⟨rfl, sv, ov, st1, ho1, b1, z1, hov⟩
  obtain ⟨g, hg⟩ : ∃ g, g = v1.heap.size := ⟨_, rfl⟩
  rw [← hg] at st1 ho1 b1 z1 ⊢
  have HG := Lib.hid hg
  have HV := Lib.hid (And.intro iv0 (And.intro iv1 iv2))
  clear hg iv0 iv1 iv2
  go_wp2_with fail
  refine (fin_any g 0 sv ov [] f s _ st1 ho1 z1 (by omega) hov).mono ?_
  rintro e t2 ⟨sv', rfl, n', st2, ho2, b2⟩
  have b12 := b1.trans b2
  clear hov st1 ho1 b1 b2
  go_wp2_with fail
  refine (fin_nil g n' sv' _ _ st2 ho2).mono ?_
  rintro e t3 ⟨sv2, rfl, rfl, st3, ho3, b3⟩
  have b13 : Below g v1 t3 := b12.trans b3
  have hSv := (Sv.of_owns ho3).1
  clear st2 ho2 b12 b3 ho3
  have hgc := HG.out
  have b13c : Below v1.heap.size v1 t3 := by rw [← hgc]; exact b13
  have j0 := HV.out.1.on b13c
  have j1 := HV.out.2.1.on b13c
  have j2 := HV.out.2.2.on b13c
  have bb : Below w0.heap.size w0 t3 := below_on bb2 bb2.size b13c
  clear hgc b13c b13 HV
  go_wp2_with fail
  refine (are_any _ (some ⟨w0.heap.size, 0, none⟩) (some ⟨v0.heap.size, 0, none⟩) (none) 0 0 0 0 [] f s _ (by omega) rfl j0 j1 j2 hSv).mono ?_
  rintro e t4 ⟨rfl, b4⟩
  go_wp2_with fail
  refine (are_any _ (some ⟨w0.heap.size, 0, none⟩) (some ⟨v0.heap.size, 0, none⟩) (none) 0 0 0 0 [] f s _ (by omega) rfl (j0.on b4) (j1.on b4) (j2.on b4) (hSv.on b4)).mono ?_
  rintro e t5 ⟨rfl, b5⟩
  have b45 : Below t3.heap.size t3 t5 := below_on b4 b4.size b5
  have c4 : t5.cell? ⟨g, 4, none⟩ = some (.pointer none) := (b45.cell (p := ⟨g, 4, none⟩) (World.block_lt_of_cell? _ _ st3.c4)).trans st3.c4
  go_wp2_with fail
  refine (openNil g _ c4).mono ?_
  rintro e t6 ⟨rfl, rfl⟩
  go_wp2
  go_ret
  exact ⟨rfl, below_on bb bb.size b45⟩

set_option maxRecDepth 100000 in
set_option maxHeartbeats 6400000 in
theorem law_SSS (x0 : Addr) (cap0 : Nat) (x1 : Addr) (cap1 : Nat) (x2 : Addr) (cap2 : Nat) (n : Nat) (ls : List Sp) (hn : n ≤ 4096) (hl : ls.length = n) (f : Bool) (s : Sp) (w : World) (hc0 : ∀ j (h : j < (los ls).length), w.cell? (x0.add j) = some (.int .i64 (los ls)[j])) (hc1 : ∀ j (h : j < (his ls).length), w.cell? (x1.add j) = some (.int .i64 (his ls)[j])) (hc2 : ∀ j (h : j < (pends ls).length), w.cell? (x2.add j) = some (.int .i64 (pends ls)[j])) :
    Calls Try.prog 3 #[.slice (some x0) n cap0, .slice (some x1) n cap1, .slice (some x2) n cap2, .bool f, .int .i64 s.lo, .int .i64 s.hi, .int .i64 s.p] w fun e w' => e = .returned (.bool true) ∧ Below w.heap.size w w' := by
  have hn22 := fun (w : World) a n c => run_neq_slice_nil_any (P := Try.prog) w 22 2 a n c 0 0 Try.underlying22
  have hn23 := fun (w : World) a n c => run_neq_slice_nil_any (P := Try.prog) w 23 3 a n c 0 0 Try.underlying23
  obtain ⟨i2, hi2, hy0, hy1, hy2⟩ := info_parts info2
  obtain ⟨i3, hi3, hx0, hx1, hx2⟩ := info_parts info3
  have l0 : (los ls).length = n := by simp [los, hl]
  have l1 : (his ls).length = n := by simp [his, hl]
  have l2 : (pends ls).length = n := by simp [pends, hl]
  have HS := Lib.hid (And.intro hc0 (And.intro hc1 hc2))
  clear hc0 hc1 hc2
  have HB := Lib.hid (And.intro l0 (And.intro l1 l2))
  clear l0 l1 l2
  go_enter Try.func3, Try.ntmps3
  go_wp2_with fail
  refine (zz_small _ _ _ n _ _ _ _ _ _ _ w hn).mono ?_
  rintro e w0 ⟨rfl, rfl⟩
  have bb0 : Below w0.heap.size w0 w0 := Below.refl _ _
  go_wp2_with (at_make; refine wpList_make_full _ rfl _ _ 22 rfl w0.heap.size 2 i2 (.int .i64 0) 1 Try.underlying22 hi2 hy0 hy1 .i64 .i64 _ _ n rfl rfl rfl rfl (by rw [hy2]; omega) (by unfold maxLen; omega) (Nat.le_refl _) ?_)
  intro m0 hown0 hgrow0
  have bm0 : Below w0.heap.size w0 m0 := (Below.refl _ _).grown hgrow0 (Nat.le_refl _) (fun k hk => by cases hk)
  have bbm0 : Below w0.heap.size w0 m0 := bb0.trans (bm0.mono bb0.size)
  obtain ⟨cur0, hcur0, hsz0⟩ := made_block hown0
  have hsrc0 := ci_src (los ls) x0 w0 m0 bbm0 HS.out.1
  have iv0 := copied (los ls) HB.out.1 hcur0 hsz0
  have bc0 : Below w0.heap.size w0 (m0.setRow w0.heap.size (ci (los ls) ++ cur0.toList.drop (ci (los ls)).length).toArray) := below_setRow bm0 (Nat.le_refl _) _
  have HI0 := Lib.hid (And.intro iv0 (And.intro bc0 (And.intro hsrc0 (And.intro hcur0 hsz0))))
  clear iv0 bc0 hsrc0 hcur0 hsz0 hown0 hgrow0 bm0 bbm0
  go_wp2_with (refine wpList_copy_own rfl (.tmp 56) (.tmp 57) 22 22 rfl 2 Try.underlying22 (by kernel_rfl) w0.heap.size 0 n n x0 n cap0 rfl rfl cur0 2 HI0.out.2.2.2.1 (ci (los ls)) (by rw [ci_length, HB.out.1]; simp) HI0.out.2.2.1 (by rw [ci_length, HB.out.1, HI0.out.2.2.2.2]; omega) (ci_one _) ?_; refine Hid.out ?_)
  refine Lib.hid ?_
  obtain ⟨v0, hv0⟩ : ∃ v0, v0 = m0.setRow w0.heap.size (ci (los ls) ++ cur0.toList.drop (ci (los ls)).length).toArray := ⟨_, rfl⟩
  rw [← hv0]
  have iv0 := HI0.out.1
  have bc0 := HI0.out.2.1
  rw [← hv0] at iv0 bc0
  clear hv0 HI0
  have bb1 : Below w0.heap.size w0 v0 := bb0.trans (bc0.mono bb0.size)
  clear bc0 bb0
  go_wp2_with (at_make; refine wpList_make_full _ rfl _ _ 22 rfl v0.heap.size 2 i2 (.int .i64 0) 1 Try.underlying22 hi2 hy0 hy1 .i64 .i64 _ _ n rfl rfl rfl rfl (by rw [hy2]; omega) (by unfold maxLen; omega) (Nat.le_refl _) ?_)
  intro m1 hown1 hgrow1
  have bm1 : Below v0.heap.size v0 m1 := (Below.refl _ _).grown hgrow1 (Nat.le_refl _) (fun k hk => by cases hk)
  have bbm1 : Below w0.heap.size w0 m1 := bb1.trans (bm1.mono bb1.size)
  obtain ⟨cur1, hcur1, hsz1⟩ := made_block hown1
  have hsrc1 := ci_src (his ls) x1 w0 m1 bbm1 HS.out.2.1
  have iv1 := copied (his ls) HB.out.2.1 hcur1 hsz1
  have bc1 : Below v0.heap.size v0 (m1.setRow v0.heap.size (ci (his ls) ++ cur1.toList.drop (ci (his ls)).length).toArray) := below_setRow bm1 (Nat.le_refl _) _
  have HI1 := Lib.hid (And.intro iv1 (And.intro bc1 (And.intro hsrc1 (And.intro hcur1 hsz1))))
  clear iv1 bc1 hsrc1 hcur1 hsz1 hown1 hgrow1 bm1 bbm1
  go_wp2_with (refine wpList_copy_own rfl (.tmp 65) (.tmp 66) 22 22 rfl 2 Try.underlying22 (by kernel_rfl) v0.heap.size 0 n n x1 n cap1 rfl rfl cur1 2 HI1.out.2.2.2.1 (ci (his ls)) (by rw [ci_length, HB.out.2.1]; simp) HI1.out.2.2.1 (by rw [ci_length, HB.out.2.1, HI1.out.2.2.2.2]; omega) (ci_one _) ?_; refine Hid.out ?_)
  refine Lib.hid ?_
  obtain ⟨v1, hv1⟩ : ∃ v1, v1 = m1.setRow v0.heap.size (ci (his ls) ++ cur1.toList.drop (ci (his ls)).length).toArray := ⟨_, rfl⟩
  rw [← hv1]
  have iv1 := HI1.out.1
  have bc1 := HI1.out.2.1
  rw [← hv1] at iv1 bc1
  clear hv1 HI1
  have bb2 : Below w0.heap.size w0 v1 := bb1.trans (bc1.mono bb1.size)
  have iv0' := iv0.on bc1
  clear iv0
  have iv0 := iv0'
  clear iv0'
  clear bc1 bb1
  go_wp2_with (at_make; refine wpList_make_full _ rfl _ _ 23 rfl v1.heap.size 3 i3 (.int .i64 0) 1 Try.underlying23 hi3 hx0 hx1 .i64 .i64 _ _ n rfl rfl rfl rfl (by rw [hx2]; omega) (by unfold maxLen; omega) (Nat.le_refl _) ?_)
  intro m2 hown2 hgrow2
  have bm2 : Below v1.heap.size v1 m2 := (Below.refl _ _).grown hgrow2 (Nat.le_refl _) (fun k hk => by cases hk)
  have bbm2 : Below w0.heap.size w0 m2 := bb2.trans (bm2.mono bb2.size)
  obtain ⟨cur2, hcur2, hsz2⟩ := made_block hown2
  have hsrc2 := ci_src (pends ls) x2 w0 m2 bbm2 HS.out.2.2
  have iv2 := copied (pends ls) HB.out.2.2 hcur2 hsz2
  have bc2 : Below v1.heap.size v1 (m2.setRow v1.heap.size (ci (pends ls) ++ cur2.toList.drop (ci (pends ls)).length).toArray) := below_setRow bm2 (Nat.le_refl _) _
  have HI2 := Lib.hid (And.intro iv2 (And.intro bc2 (And.intro hsrc2 (And.intro hcur2 hsz2))))
  clear iv2 bc2 hsrc2 hcur2 hsz2 hown2 hgrow2 bm2 bbm2
  go_wp2_with (refine wpList_copy_own rfl (.tmp 74) (.tmp 75) 23 23 rfl 3 Try.underlying23 (by kernel_rfl) v1.heap.size 0 n n x2 n cap2 rfl rfl cur2 3 HI2.out.2.2.2.1 (ci (pends ls)) (by rw [ci_length, HB.out.2.2]; simp) HI2.out.2.2.1 (by rw [ci_length, HB.out.2.2, HI2.out.2.2.2.2]; omega) (ci_one _) ?_; refine Hid.out ?_)
  refine Lib.hid ?_
  obtain ⟨v2, hv2⟩ : ∃ v2, v2 = m2.setRow v1.heap.size (ci (pends ls) ++ cur2.toList.drop (ci (pends ls)).length).toArray := ⟨_, rfl⟩
  rw [← hv2]
  have iv2 := HI2.out.1
  have bc2 := HI2.out.2.1
  rw [← hv2] at iv2 bc2
  clear hv2 HI2
  have bb3 : Below w0.heap.size w0 v2 := bb2.trans (bc2.mono bb2.size)
  have iv0' := iv0.on bc2
  clear iv0
  have iv0 := iv0'
  clear iv0'
  have iv1' := iv1.on bc2
  clear iv1
  have iv1 := iv1'
  clear iv1'
  clear bc2 bb2
  go_wp2_with fail
  refine (new_core (some ⟨w0.heap.size, 0, none⟩) (some ⟨v0.heap.size, 0, none⟩) (some ⟨v1.heap.size, 0, none⟩) n n n n ls f s.lo s.hi s.p _ hn hl iv0 iv1 iv2).mono ?_
  rintro e t1 ⟨rfl, sv, ov, st1, ho1, b1, z1, hov⟩
  obtain ⟨g, hg⟩ : ∃ g, g = v2.heap.size := ⟨_, rfl⟩
  rw [← hg] at st1 ho1 b1 z1 ⊢
  have HG := Lib.hid hg
  have HV := Lib.hid (And.intro iv0 (And.intro iv1 iv2))
  clear hg iv0 iv1 iv2
  go_wp2_with fail
  refine (fin_any g n sv ov ls f s _ st1 ho1 z1 hn hov).mono ?_
  rintro e t2 ⟨sv', rfl, n', st2, ho2, b2⟩
  have b12 := b1.trans b2
  clear hov st1 ho1 b1 b2
  go_wp2_with fail
  refine (fin_nil g n' sv' _ _ st2 ho2).mono ?_
  rintro e t3 ⟨sv2, rfl, rfl, st3, ho3, b3⟩
  have b13 : Below g v2 t3 := b12.trans b3
  have hSv := (Sv.of_owns ho3).1
  clear st2 ho2 b12 b3 ho3
  have hgc := HG.out
  have b13c : Below v2.heap.size v2 t3 := by rw [← hgc]; exact b13
  have j0 := HV.out.1.on b13c
  have j1 := HV.out.2.1.on b13c
  have j2 := HV.out.2.2.on b13c
  have bb : Below w0.heap.size w0 t3 := below_on bb3 bb3.size b13c
  clear hgc b13c b13 HV
  go_wp2_with fail
  refine (are_any _ (some ⟨w0.heap.size, 0, none⟩) (some ⟨v0.heap.size, 0, none⟩) (some ⟨v1.heap.size, 0, none⟩) n n n n ls f s _ hn hl j0 j1 j2 hSv).mono ?_
  rintro e t4 ⟨rfl, b4⟩
  go_wp2_with fail
  refine (are_any _ (some ⟨w0.heap.size, 0, none⟩) (some ⟨v0.heap.size, 0, none⟩) (some ⟨v1.heap.size, 0, none⟩) n n n n ls f s _ hn hl (j0.on b4) (j1.on b4) (j2.on b4) (hSv.on b4)).mono ?_
  rintro e t5 ⟨rfl, b5⟩
  have b45 : Below t3.heap.size t3 t5 := below_on b4 b4.size b5
  have c4 : t5.cell? ⟨g, 4, none⟩ = some (.pointer none) := (b45.cell (p := ⟨g, 4, none⟩) (World.block_lt_of_cell? _ _ st3.c4)).trans st3.c4
  go_wp2_with fail
  refine (openNil g _ c4).mono ?_
  rintro e t6 ⟨rfl, rfl⟩
  go_wp2
  go_ret
  exact ⟨rfl, below_on bb bb.size b45⟩
end Go.Proofs.Qxb6615596a
