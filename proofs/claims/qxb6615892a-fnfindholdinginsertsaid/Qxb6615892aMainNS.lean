/-
  FnFindHoldingInsert (seat b6615892a): the main walk, secs nil, issuers given.
-/
import Derived.Test.Qxb6615892aIns
namespace Go.Proofs.Qxb6615892a
open Go.RowKit
set_option linter.unusedVariables false
set_option linter.unusedSimpArgs false

set_option maxRecDepth 100000 in
set_option maxHeartbeats 12800000 in
theorem main_ns (xa xb : Addr) (n ca cb q : Nat) (S I : List ByteArray) (sec ni : ByteArray) (w : World) (hn : n ≤ 65536) (h0 : n = 0) (hS : S.length = n) (hI : I.length = n) (hq : q ≤ n) (z1 : sec.size ≤ 65536) (z2 : ni.size ≤ 65536)
    (ha : Ws w none S) (hb : Ws w (some xb) I) :
    Calls Try.prog 5 #[.slice none n n, .slice (some xb) n cb, .string sec, .int .i64 q, .string ni] w fun e w' => e = .returned (.bool true) ∧ Below w.heap.size w w' := by
  have hn26 := fun (w : World) a n c => run_neq_slice_nil_any (P := Try.prog) w 26 9 a n c 0 0 Try.underlying26
  obtain ⟨i9, hi9, hy0, hy1, hy2⟩ := info_parts info9
  have hpl := plain S I sec ni q (by omega) (by omega)
  have HP := Lib.hid hpl
  have HH := Lib.hid (And.intro ha hb)
  have HY := Lib.hid (And.intro hi9 (And.intro hy0 (And.intro hy1 hy2)))
  clear hpl ha hb hi9 hy0 hy1 hy2
  have H0 := Lib.hid h0
  clear h0
  have p0 : ¬ (q : Int) < 0 := by omega
  have p1 : ¬ (n : Int) < (q : Int) := by omega
  go_enter Try.func5, Try.ntmps5
  go_wp2_with fail
  refine (bytes_any none (some xb) n n n cb S I sec ni q w (by omega) (by omega) hS hI HH.out.1 HH.out.2).mono ?_
  rintro e w0 ⟨⟨r, rfl⟩, rfl⟩
  cases r with
  | false =>
    go_wp2
    go_ret
    exact ⟨rfl, Below.refl _ _⟩
  | true =>
  go_wp2_with fail
  refine (over_any none (some xb) n n n cb S I _ w0 (by omega) (by omega) hS hI HH.out.1 HH.out.2).mono ?_
  rintro e w1 ⟨⟨r, rfl⟩, rfl⟩
  cases r with
  | true =>
    go_wp2
    go_ret
    exact ⟨rfl, Below.refl _ _⟩
  | false =>
  have bz : Below w1.heap.size w1 w1 := Below.refl _ _
  have wa := HH.out.1
  go_wp2_with (at_make; refine wpList_make_full _ rfl _ _ 26 rfl w1.heap.size 9 i9 (.string ⟨#[]⟩) 1 Try.underlying26 HY.out.1 HY.out.2.1 HY.out.2.2.1 .i64 .i64 _ _ n rfl rfl rfl rfl (by rw [HY.out.2.2.2]; omega) (by unfold maxLen; omega) (Nat.le_refl _) ?_)
  intro m1 hown1 hgrow1
  have bm1 : Below w1.heap.size w1 m1 := (Below.refl _ _).grown hgrow1 (Nat.le_refl _) (fun k hk => by cases hk)
  obtain ⟨cur1, hcur1, hsz1⟩ := made_block' hown1
  have bb1 : Below w1.heap.size w1 m1 := bm1
  have hsrc1 := sv_src I xb w1 m1 bb1 HH.out.2
  have cp1 := copied' I hI hcur1 hsz1
  have bc1 : Below w1.heap.size w1 (m1.setRow w1.heap.size (sv I ++ cur1.toList.drop (sv I).length).toArray) := below_setRow bm1 (Nat.le_refl _) _
  have HI1 := Lib.hid (And.intro cp1 (And.intro bc1 (And.intro hsrc1 (And.intro hcur1 hsz1))))
  clear cp1 bc1 hsrc1 hcur1 hsz1 hown1 hgrow1 bm1 bb1
  go_wp2_with (refine wpList_copy_own rfl (.tmp 84) (.tmp 85) 26 26 rfl 9 Try.underlying26 (by kernel_rfl) w1.heap.size 0 n n xb n cb rfl rfl cur1 9 HI1.out.2.2.2.1 (sv I) (by rw [sv_length, hI]; simp) HI1.out.2.2.1 (by rw [sv_length, hI, HI1.out.2.2.2.2]; omega) (sv_one _) ?_; refine Hid.out ?_)
  refine Lib.hid ?_
  obtain ⟨v1, hv1⟩ : ∃ v, v = m1.setRow w1.heap.size (sv I ++ cur1.toList.drop (sv I).length).toArray := ⟨_, rfl⟩
  rw [← hv1]
  have cp1 := HI1.out.1
  have bc1 := HI1.out.2.1
  rw [← hv1] at cp1 bc1
  clear hv1 HI1
  replace bz : Below w1.heap.size w1 v1 := bz.trans (bc1.mono bz.size)
  replace wa := wa.on bc1
  have wb := cp1.1
  obtain ⟨gb, hgb⟩ : ∃ g, g = w1.heap.size := ⟨_, rfl⟩
  have lb : gb < v1.heap.size := by rw [hgb]; exact cp1.2
  rw [← hgb] at wb ⊢
  clear cp1 bc1 hgb
  have HW := Lib.hid (And.intro bz (And.intro wa wb))
  clear bz wa wb
  go_wp2_with (at_make; refine wpList_make_full _ rfl _ _ 26 rfl v1.heap.size 9 i9 (.string ⟨#[]⟩) 1 Try.underlying26 HY.out.1 HY.out.2.1 HY.out.2.2.1 .i64 .i64 _ _ (n + 1) rfl rfl (by omega) (by omega) (by rw [HY.out.2.2.2]; omega) (by unfold maxLen; omega) (Nat.le_refl _) ?_)
  intro m2 hown2 hgrow2
  have bm2 : Below v1.heap.size v1 m2 := (Below.refl _ _).grown hgrow2 (Nat.le_refl _) (fun k hk => by cases hk)
  have th2 := made_th hown2
  obtain ⟨g2, hg2⟩ : ∃ g, g = v1.heap.size := ⟨_, rfl⟩
  rw [← hg2] at th2 ⊢
  have HM2 := Lib.hid (And.intro bm2 (And.intro th2 hg2))
  clear bm2 th2 hown2 hgrow2 hg2
  go_wp2_with (at_make; refine wpList_make_full _ rfl _ _ 26 rfl m2.heap.size 9 i9 (.string ⟨#[]⟩) 1 Try.underlying26 HY.out.1 HY.out.2.1 HY.out.2.2.1 .i64 .i64 _ _ (n + 1) rfl rfl (by omega) (by omega) (by rw [HY.out.2.2.2]; omega) (by unfold maxLen; omega) (Nat.le_refl _) ?_)
  intro m3 hown3 hgrow3
  have bm3 : Below m2.heap.size m2 m3 := (Below.refl _ _).grown hgrow3 (Nat.le_refl _) (fun k hk => by cases hk)
  have th3 := made_th hown3
  obtain ⟨g3, hg3⟩ : ∃ g, g = m2.heap.size := ⟨_, rfl⟩
  rw [← hg3] at th3 ⊢
  have HM3 := Lib.hid (And.intro bm3 (And.intro th3 hg3))
  clear bm3 th3 hown3 hgrow3 hg3
  go_wp2_with fail
  obtain ⟨T, hT⟩ : ∃ T, T = ins S q sec := ⟨_, rfl⟩
  obtain ⟨U, hU⟩ : ∃ U, U = ins I q ni := ⟨_, rfl⟩
  have lT : T.length = n + 1 := by rw [hT, ins_length _ _ _ (by omega), hS]
  have lU : U.length = n + 1 := by rw [hU, ins_length _ _ _ (by omega), hI]
  have tlo : ∀ k (h : k < q), T[k]'(by omega) = S[k]'(by omega) ∧ U[k]'(by omega) = I[k]'(by omega) := by
    intro k h; subst hT; subst hU; exact ⟨ins_lt S q sec (by omega) k h, ins_lt I q ni (by omega) k h⟩
  have tat : T[q]'(by omega) = sec ∧ U[q]'(by omega) = ni := by
    subst hT; subst hU; exact ⟨ins_at S q sec (by omega), ins_at I q ni (by omega)⟩
  have thi : ∀ k (h : q ≤ k) (h' : k < n), T[k + 1]'(by omega) = S[k]'(by omega) ∧ U[k + 1]'(by omega) = I[k]'(by omega) := by
    intro k h h'; subst hT; subst hU; exact ⟨ins_gt S q sec k h (by omega), ins_gt I q ni k h (by omega)⟩
  rw [← hT, ← hU] at HP
  have HTT := Lib.hid (And.intro tlo (And.intro tat thi))
  clear tlo tat thi hT hU
  have e23 : g2 < g3 := by have h1 := HM3.out.2.2; have h2 := HM2.out.2.1.1; omega
  have inv0 : Inv m3 m3 g2 g3 (n + 1) T U 0 := ⟨Below.refl _ _, HM2.out.2.1.on HM3.out.1 HM2.out.2.1.1 (Nat.le_refl _), HM3.out.2.1, fun j _ hj => absurd hj (Nat.not_lt_zero _), fun j _ hj => absurd hj (Nat.not_lt_zero _)⟩
  have bm : Below v1.heap.size v1 m3 := HM2.out.1.trans (HM3.out.1.mono HM2.out.1.size)
  have eg2 := HM2.out.2.2
  have wa3 := HW.out.2.1.on bm
  have wb3 := HW.out.2.2.on bm
  have bz3 : Below w1.heap.size w1 m3 := HW.out.1.trans (bm.mono HW.out.1.size)
  have lw : w1.heap.size ≤ g2 := by rw [eg2]; exact HW.out.1.size
  replace lb : gb < g2 := by omega
  have HX := Lib.hid (And.intro inv0 (And.intro wa3 (And.intro wb3 (And.intro bz3 lw))))
  clear inv0 bm eg2 wa3 wb3 bz3 lw HW HM2 HM3
  go_loopw [16] (fun i wr => ∃ k : Nat, k ≤ q ∧ i = .int .i64 k ∧ Hid (Inv m3 wr g2 g3 (n + 1) T U k)) (fun i _ => q - (RowKit.intOf i).toNat)
  case atStart => exact ⟨0, Nat.zero_le _, rfl, Lib.hid HX.out.1⟩
  case round =>
    obtain ⟨k, hk, rfl, HN⟩ := hrel
    by_cases hlt : k < q
    · exact absurd hlt (by have := H0.out; omega)
    · obtain rfl : q = k := by omega
      obtain ⟨v2, v3, c2, f2, c3, f3, c3', f3'⟩ := HN.out.facts e23 (k := q) (by omega) sec
      have n1 : g2 ≠ g3 := by omega
      have b0 : (0 : Int) ≤ (q : Int) := by omega
      have b3 : (q : Int) < (n : Int) + 1 := by omega
      have inv1 := HN.out.step e23 (k := q) (by omega) (by omega) (by omega) HTT.out.2.1.1 HTT.out.2.1.2
      have HN1 := Lib.hid inv1
      clear inv1 HN
      go_wp2
      go_loopw [17] (fun i wr => ∃ k : Nat, q ≤ k ∧ k ≤ n ∧ i = .int .i64 k ∧ Hid (Inv m3 wr g2 g3 (n + 1) T U (k + 1))) (fun i _ => n - (RowKit.intOf i).toNat)
      case atStart => exact ⟨q, Nat.le_refl _, by omega, rfl, HN1⟩
      case round =>
        clear c2 f2 c3 f3 c3' f3' HN1
        obtain ⟨k, hqk, hk2, rfl, HN⟩ := hrel
        by_cases hlt : k < n
        · exact absurd hlt (by have := H0.out; omega)
        · obtain rfl : n = k := by omega
          have xb : Below w1.heap.size w1 wr := HX.out.2.2.2.1.trans (HN.out.1.mono HX.out.2.2.2.2)
          have xa : Ws wr none S := fun j hj => absurd hj (by have := H0.out; omega)
          have xi : Ws wr (some ⟨gb, 0, none⟩) I := fun j hj => ⟨gb, 0, rfl, by have := HN.out.2.1.1; omega, by rw [Nat.zero_add]; exact HN.out.src lb HX.out.2.2.1 j hj⟩
          have xt : Ws wr (some ⟨g2, 0, none⟩) T := Fil.ws (by rw [lT]; exact HN.out.2.2.2.1) HN.out.2.1.1
          have xu : Ws wr (some ⟨g3, 0, none⟩) U := Fil.ws (by rw [lU]; exact HN.out.2.2.2.2) HN.out.2.2.1.1
          have HQ := Lib.hid (And.intro xb (And.intro xa (And.intro xi (And.intro xt xu))))
          clear xb xa xi xt xu HN HX HH HTT
          go_wp2_with fail
          refine (zzfind none (some ⟨gb, 0, none⟩) n _ _ S I sec wr (by omega) hS hI HQ.out.2.1 HQ.out.2.2.1).mono ?_
          rintro e w2 ⟨rfl, hb2⟩
          have HQ2 := Lib.hid (And.intro (HQ.out.1.trans (hb2.mono HQ.out.1.size)) (And.intro (HQ.out.2.1.on hb2) (And.intro (HQ.out.2.2.1.on hb2) (And.intro (HQ.out.2.2.2.1.on hb2) (HQ.out.2.2.2.2.on hb2)))))
          clear HQ hb2
          go_wp2_with fail
          refine (zzfind (some ⟨g2, 0, none⟩) (some ⟨g3, 0, none⟩) (n + 1) _ _ T U sec w2 (by omega) lT lU HQ2.out.2.2.2.1 HQ2.out.2.2.2.2).mono ?_
          rintro e w3 ⟨rfl, hb3⟩
          have HQ3 := Lib.hid (And.intro (HQ2.out.1.trans (hb3.mono HQ2.out.1.size)) (And.intro (HQ2.out.2.1.on hb3) (HQ2.out.2.2.1.on hb3)))
          clear HQ2 hb3
          go_wp2_with fail
          have hq1 : (S.take q).length = q := by simp; omega
          have hq2 : (I.take q).length = q := by simp; omega
          go_region_held3 (fun _ => True) (trivial) ((go_at_call 12; refine (zzfind _ _ q _ _ (S.take q) (I.take q) sec _ (by omega) hq1 hq2 ?_ ?_).mono ?_; exact HQ3.out.2.1.drew.take q; exact HQ3.out.2.2.drew.take q; rintro e w4 ⟨rfl, hb4⟩))
          have HQ4 := Lib.hid (And.intro (HQ3.out.1.drew.trans (hb4.mono HQ3.out.1.drew.size)) (And.intro (HQ3.out.2.1.drew.on hb4) (HQ3.out.2.2.drew.on hb4)))
          clear HQ3 hb4
          go_wp2_with fail
          have hq3 : (S.drop q).length = n - q := by simp; omega
          have hq4 : (I.drop q).length = n - q := by simp; omega
          by_cases hnq : n = q
          · go_region_held3 (fun _ => True) (trivial) ((go_at_call 12; refine (zzfind _ _ _ _ _ (S.drop q) (I.drop q) sec _ (by omega) (by simp; omega) (by simp; omega) ?_ ?_).mono ?_; exact (fun k hk => absurd hk (by simp; omega)); exact (fun k hk => absurd hk (by simp; omega)); rintro e w5 ⟨rfl, hb5⟩))
            have HQ5 := Lib.hid (HQ4.out.1.drew.trans (hb5.mono HQ4.out.1.drew.size))
            clear HQ4 hb5
            rcases HP.out with ⟨X, Y, X', Y', b', hX, r1, r2, r3, r4⟩ | ⟨X, Y, hX, r1, r2, r3, r4⟩ | ⟨r1, r2, r3, r4⟩
            · simp only [r1, r2, r3, r4]
              clear r1 r2 r3 r4 HP
              go_wp2
              go_ret
              exact ⟨rfl, HQ5.out⟩
            · simp only [r1, r2, r3, r4]
              clear r1 r2 r3 r4 HP
              go_wp2
              go_ret
              exact ⟨rfl, HQ5.out⟩
            · simp only [r1, r2, r3, r4]
              clear r1 r2 r3 r4 HP
              go_wp2
              go_ret
              exact ⟨rfl, HQ5.out⟩
          · exact absurd hnq (by have := H0.out; omega)
end Go.Proofs.Qxb6615892a
