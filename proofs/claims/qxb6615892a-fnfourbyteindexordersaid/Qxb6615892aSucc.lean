/-
  THE LAW 'FnFourByteIndexSuccessor' (seat b6615892a): its walk.
-/
import Derived.Test.Qxb6615892aLeaf
namespace Go.Proofs.Qxb6615892a
open Go.RowKit
set_option linter.unusedVariables false
set_option linter.unusedSimpArgs false

def cb (l : List Int) : List Value := l.map (Value.int .u8)
theorem cb_length (l : List Int) : (cb l).length = l.length := by simp [cb]
theorem cb_get (l : List Int) (j : Nat) (h : j < l.length) : (cb l)[j]? = some (.int .u8 l[j]) := by simp [cb, h]
theorem cb_one (l : List Int) : ∀ v ∈ cb l, v.oneCell' = true := by
  intro v hv
  simp only [cb, List.mem_map] at hv
  obtain ⟨z, _, rfl⟩ := hv
  rfl
theorem cb_src (l : List Int) (x : Addr) (w W : World) (hb : Below w.heap.size w W) (hc : ∀ j (h : j < l.length), w.cell? (x.add j) = some (.int .u8 l[j])) : ∀ j v, (cb l)[j]? = some v → W.cell? (x.add j) = some v := by
  intro j v hj
  have hjl : j < l.length := by
    have h5 := (List.getElem?_eq_some_iff.1 hj).1
    rwa [cb_length] at h5
  rw [cb_get l j hjl] at hj
  cases hj
  have h0 := hc j hjl
  rw [hb.cell (p := x.add j) (World.block_lt_of_cell? _ _ h0)]
  exact h0
theorem made_block {w : World} {B g n e : Nat} {xs : List Value} (h : w.ownsRow B e 1 (.slice (some ⟨g, 0, none⟩) n n) n xs) : ∃ cur : Array Value, w.heap[g]? = some (.cells cur e (0, 0)) ∧ cur.size = n := by
  rcases h.2 with ⟨h', _⟩ | ⟨g', cap', cur, h', _, hh, _, _, hs, _⟩
  · simp at h'
  · simp only [Value.slice.injEq, Option.some.injEq, Addr.mk.injEq, and_true, true_and] at h'
    obtain ⟨rfl, rfl⟩ := h'
    exact ⟨cur, hh, by omega⟩
/-- Behind the copy: the cells, one by one. -/
theorem copied {w : World} {g n e : Nat} {cur : Array Value} (l : List Int) (hl : l.length = n) (hg : w.heap[g]? = some (.cells cur e (0, 0))) (hs : cur.size = n) :
    ∀ k (h : k < l.length), (w.setRow g (cb l ++ cur.toList.drop (cb l).length).toArray).cell? ⟨g, k, none⟩ = some (.int .u8 l[k]) := by
  intro k hk
  have e1 : cb l ++ cur.toList.drop (cb l).length = cb l := by
    rw [cb_length, List.drop_of_length_le (by simp; omega), List.append_nil]
  rw [e1]
  have hh := setRow_heap w g cur (cb l).toArray e (0, 0) hg
  rw [cell_of_row _ g k _ e (0, 0) hh]
  simpa using cb_get l k hk

theorem At4.on {w w' : World} {b off : Nat} {c0 c1 c2 c3 : Int} (h : At4 w b off c0 c1 c2 c3) {B : Nat} (hb : Below B w w') (hB : b < B) : At4 w' b off c0 c1 c2 c3 :=
  ⟨(hb.cell (p := ⟨b, off, none⟩) hB).trans h.1, (hb.cell (p := ⟨b, off + 1, none⟩) hB).trans h.2.1, (hb.cell (p := ⟨b, off + 2, none⟩) hB).trans h.2.2.1, (hb.cell (p := ⟨b, off + 3, none⟩) hB).trans h.2.2.2⟩
theorem At4.drewN {w : World} {b off : Nat} {c0 c1 c2 c3 : Int} (h : At4 w b off c0 c1 c2 c3) (q : Nat) : At4 (w.drewN q) b off c0 c1 c2 c3 :=
  h.on (B := b + 1) (below_drewN (Below.refl _ _) q) (by omega)

/-- Four bytes at the head of a block that was made now. -/
theorem at4_new (W : World) (c0 c1 c2 c3 : Int) : At4 (W.alloc (.cells #[.int .u8 c0, .int .u8 c1, .int .u8 c2, .int .u8 c3] 5)) W.heap.size 0 c0 c1 c2 c3 := by
  refine ⟨?_, ?_, ?_, ?_⟩
  all_goals
    rw [World.cell?_alloc_new]
    rfl

theorem idx_first : idx 129 48 129 48 = 0 := by decide
theorem idx_bounds (c0 c1 c2 c3 : Int) (h : Code4 c0 c1 c2 c3) : 0 ≤ idx c0 c1 c2 c3 ∧ idx c0 c1 c2 c3 < 1587600 := by
  unfold Code4 at h; unfold idx; omega

set_option maxRecDepth 100000 in
set_option maxHeartbeats 6400000 in
theorem succ_Z (x : Addr) (n cap : Nat) (l : List Int) (c0 c1 c2 c3 : Int) (w : World) (hn : n ≤ 1048576) (h4 : 4 ≤ n) (hl : l.length = n) (hc : ∀ j (h : j < l.length), w.cell? (x.add j) = some (.int .u8 l[j]))
    (e0 : l[0]? = some c0) (e1 : l[1]? = some c1) (e2 : l[2]? = some c2) (e3 : l[3]? = some c3) (hcd : Code4 c0 c1 c2 c3) (hm0 : c0 = 254) (hm1 : c1 = 57) (hm2 : c2 = 254) (hm3 : c3 = 57) :
    Calls Try.prog 3 #[.slice (some x) n cap] w fun e w' => e = .returned (.bool true) ∧ Below w.heap.size w w' := by
  have hn22 := fun (w : World) a n c => run_neq_slice_nil_any (P := Try.prog) w 22 5 a n c 0 0 Try.underlying22
  obtain ⟨i5, hi5, hy0, hy1, hy2⟩ := info_parts infoByte
  have g0 : ∀ W : World, (∀ k (h : k < l.length), W.cell? ⟨w.heap.size, k, none⟩ = some (.int .u8 l[k])) → At4 W w.heap.size 0 c0 c1 c2 c3 := by
    intro W h
    have k0 := h 0 (by omega); have k1 := h 1 (by omega); have k2 := h 2 (by omega); have k3 := h 3 (by omega)
    rw [List.getElem?_eq_getElem (by omega)] at e0 e1 e2 e3
    rw [Option.some.inj e0] at k0
    rw [Option.some.inj e1] at k1
    rw [Option.some.inj e2] at k2
    rw [Option.some.inj e3] at k3
    exact ⟨k0, k1, k2, k3⟩
  have hsp : ∃ b off, x = ⟨b, off, none⟩ ∧ At4 w b off c0 c1 c2 c3 := by
    obtain ⟨b, off, sp⟩ := x
    have hs0 : sp = none := by simpa [Addr.add] using World.cell?_spot (hc 0 (by omega))
    subst hs0
    have k0 := hc 0 (by omega); have k1 := hc 1 (by omega); have k2 := hc 2 (by omega); have k3 := hc 3 (by omega)
    rw [Addr.add_lit] at k0 k1 k2 k3
    rw [List.getElem?_eq_getElem (by omega)] at e0 e1 e2 e3
    rw [Option.some.inj e0] at k0
    rw [Option.some.inj e1] at k1
    rw [Option.some.inj e2] at k2
    rw [Option.some.inj e3] at k3
    exact ⟨b, off, rfl, k0, k1, k2, k3⟩
  obtain ⟨b, off, rfl, ha⟩ := hsp
  have hib := idx_bounds c0 c1 c2 c3 hcd
  obtain ⟨I, hI⟩ : ∃ I, I = idx c0 c1 c2 c3 := ⟨_, rfl⟩
  rw [← hI] at hib
  obtain ⟨hI0, hI1⟩ := hib
  have HH := Lib.hid (And.intro hc (And.intro g0 (And.intro hcd (And.intro hI ha))))
  obtain ⟨⟨a1, a2⟩, ⟨a3, a4⟩, ⟨a5, a6⟩, ⟨a7, a8⟩⟩ := hcd
  clear hc g0 e0 e1 e2 e3 hI ha
  go_enter Try.func3, Try.ntmps3
  go_wp2_with fail
  refine (zz_small6 _ n cap w hn).mono ?_
  rintro e w0 ⟨rfl, rfl⟩
  go_wp2_with fail
  refine (valid_yes b off n cap c0 c1 c2 c3 w0 h4 (by omega) HH.out.2.2.2.2 HH.out.2.2.1).mono ?_
  rintro e w1 ⟨rfl, rfl⟩
  go_wp2_with (at_make; refine wpList_make_full _ rfl _ _ 22 rfl w1.heap.size 5 i5 (.int .u8 0) 1 Try.underlying22 hi5 hy0 hy1 .i64 .i64 _ _ n rfl rfl rfl rfl (by rw [hy2]; omega) (by unfold maxLen; omega) (Nat.le_refl _) ?_)
  intro m hown hgrow
  have bm : Below w1.heap.size w1 m := (Below.refl _ _).grown hgrow (Nat.le_refl _) (fun k hk => by cases hk)
  obtain ⟨cur, hcur, hsz⟩ := made_block hown
  have hsrc := cb_src l ⟨b, off, none⟩ w1 m bm HH.out.1
  have iv := HH.out.2.1 _ (copied l hl hcur hsz)
  have bc : Below w1.heap.size w1 (m.setRow w1.heap.size (cb l ++ cur.toList.drop (cb l).length).toArray) := below_setRow bm (Nat.le_refl _) _
  have hzz : w1.heap.size < (m.setRow w1.heap.size (cb l ++ cur.toList.drop (cb l).length).toArray).heap.size := World.block_lt_of_cell? _ _ iv.1
  have HI := Lib.hid (And.intro iv (And.intro bc (And.intro hsrc (And.intro hcur (And.intro hsz hzz)))))
  clear iv bc hsrc hcur hsz hown hgrow bm hzz
  go_wp2_with (refine wpList_copy_own rfl (.tmp 23) (.tmp 24) 22 22 rfl 5 Try.underlying22 (by kernel_rfl) w1.heap.size 0 n n ⟨b, off, none⟩ n cap rfl rfl cur 5 HI.out.2.2.2.1 (cb l) (by rw [cb_length, hl]; simp) HI.out.2.2.1 (by rw [cb_length, hl, HI.out.2.2.2.2.1]; omega) (cb_one _) ?_; refine Hid.out ?_)
  refine Lib.hid ?_
  obtain ⟨v, hv⟩ : ∃ v, v = m.setRow w1.heap.size (cb l ++ cur.toList.drop (cb l).length).toArray := ⟨_, rfl⟩
  rw [← hv]
  have iv := HI.out.1
  have bc := HI.out.2.1
  have hzz := HI.out.2.2.2.2.2
  rw [← hv] at iv bc hzz
  clear hv HI
  have HA := Lib.hid (And.intro iv bc)
  obtain ⟨d0, d1, d2, d3⟩ := iv
  clear bc
  go_wp2_with fail
  refine (zzindex v.heap.size 0 4 4 129 48 129 48 _ (by omega) (by omega) (at4_new v 129 48 129 48) (by unfold Code4; omega)).mono ?_
  rintro e w2 ⟨rfl, q2, rfl⟩
  rw [idx_first]
  have bx : ∀ X, Below v.heap.size v ((v.alloc X).drewN q2) := fun X => below_drewN ((Below.refl _ _).alloc (Nat.le_refl _) X) q2
  go_wp2_with fail
  refine (zzindex w1.heap.size 0 n n c0 c1 c2 c3 _ h4 (by omega) (HA.out.1.on (bx _) hzz) HH.out.2.2.1).mono ?_
  rintro e w3 ⟨rfl, q3, hq3⟩
  rw [← HH.out.2.2.2.1]
  have by3 : Below v.heap.size v w3 := by rw [hq3]; exact below_drewN (bx _) q3
  clear bx hq3
  obtain ⟨r0, r1, r2, r3⟩ := HA.out.1.on by3 hzz
  have hz3 : w1.heap.size < w3.heap.size := by have := by3.size; omega
  clear d0 d1 d2 d3
  have t0 : (c0 == 254) = true := by rw [beq_iff_eq]; omega
  have t1 : (c1 == 57) = true := by rw [beq_iff_eq]; omega
  have t2 : (c2 == 254) = true := by rw [beq_iff_eq]; omega
  have t3 : (c3 == 57) = true := by rw [beq_iff_eq]; omega
  have tI : (I == 1587599) = true := by rw [HH.out.2.2.2.1, beq_iff_eq]; unfold idx; omega
  go_wp2
  go_ret
  exact ⟨rfl, HA.out.2.trans (by3.mono HA.out.2.size)⟩


set_option maxRecDepth 100000 in
set_option maxHeartbeats 6400000 in
theorem succ_1 (x : Addr) (n cap : Nat) (l : List Int) (c0 c1 c2 c3 : Int) (w : World) (hn : n ≤ 1048576) (h4 : 4 ≤ n) (hl : l.length = n) (hc : ∀ j (h : j < l.length), w.cell? (x.add j) = some (.int .u8 l[j]))
    (e0 : l[0]? = some c0) (e1 : l[1]? = some c1) (e2 : l[2]? = some c2) (e3 : l[3]? = some c3) (hcd : Code4 c0 c1 c2 c3) (hlt : c3 < 57) :
    Calls Try.prog 3 #[.slice (some x) n cap] w fun e w' => e = .returned (.bool true) ∧ Below w.heap.size w w' := by
  have hn22 := fun (w : World) a n c => run_neq_slice_nil_any (P := Try.prog) w 22 5 a n c 0 0 Try.underlying22
  obtain ⟨i5, hi5, hy0, hy1, hy2⟩ := info_parts infoByte
  have g0 : ∀ W : World, (∀ k (h : k < l.length), W.cell? ⟨w.heap.size, k, none⟩ = some (.int .u8 l[k])) → At4 W w.heap.size 0 c0 c1 c2 c3 := by
    intro W h
    have k0 := h 0 (by omega); have k1 := h 1 (by omega); have k2 := h 2 (by omega); have k3 := h 3 (by omega)
    rw [List.getElem?_eq_getElem (by omega)] at e0 e1 e2 e3
    rw [Option.some.inj e0] at k0
    rw [Option.some.inj e1] at k1
    rw [Option.some.inj e2] at k2
    rw [Option.some.inj e3] at k3
    exact ⟨k0, k1, k2, k3⟩
  have hsp : ∃ b off, x = ⟨b, off, none⟩ ∧ At4 w b off c0 c1 c2 c3 := by
    obtain ⟨b, off, sp⟩ := x
    have hs0 : sp = none := by simpa [Addr.add] using World.cell?_spot (hc 0 (by omega))
    subst hs0
    have k0 := hc 0 (by omega); have k1 := hc 1 (by omega); have k2 := hc 2 (by omega); have k3 := hc 3 (by omega)
    rw [Addr.add_lit] at k0 k1 k2 k3
    rw [List.getElem?_eq_getElem (by omega)] at e0 e1 e2 e3
    rw [Option.some.inj e0] at k0
    rw [Option.some.inj e1] at k1
    rw [Option.some.inj e2] at k2
    rw [Option.some.inj e3] at k3
    exact ⟨b, off, rfl, k0, k1, k2, k3⟩
  obtain ⟨b, off, rfl, ha⟩ := hsp
  have hib := idx_bounds c0 c1 c2 c3 hcd
  obtain ⟨I, hI⟩ : ∃ I, I = idx c0 c1 c2 c3 := ⟨_, rfl⟩
  rw [← hI] at hib
  obtain ⟨hI0, hI1⟩ := hib
  have HH := Lib.hid (And.intro hc (And.intro g0 (And.intro hcd (And.intro hI ha))))
  obtain ⟨⟨a1, a2⟩, ⟨a3, a4⟩, ⟨a5, a6⟩, ⟨a7, a8⟩⟩ := hcd
  clear hc g0 e0 e1 e2 e3 hI ha
  go_enter Try.func3, Try.ntmps3
  go_wp2_with fail
  refine (zz_small6 _ n cap w hn).mono ?_
  rintro e w0 ⟨rfl, rfl⟩
  go_wp2_with fail
  refine (valid_yes b off n cap c0 c1 c2 c3 w0 h4 (by omega) HH.out.2.2.2.2 HH.out.2.2.1).mono ?_
  rintro e w1 ⟨rfl, rfl⟩
  go_wp2_with (at_make; refine wpList_make_full _ rfl _ _ 22 rfl w1.heap.size 5 i5 (.int .u8 0) 1 Try.underlying22 hi5 hy0 hy1 .i64 .i64 _ _ n rfl rfl rfl rfl (by rw [hy2]; omega) (by unfold maxLen; omega) (Nat.le_refl _) ?_)
  intro m hown hgrow
  have bm : Below w1.heap.size w1 m := (Below.refl _ _).grown hgrow (Nat.le_refl _) (fun k hk => by cases hk)
  obtain ⟨cur, hcur, hsz⟩ := made_block hown
  have hsrc := cb_src l ⟨b, off, none⟩ w1 m bm HH.out.1
  have iv := HH.out.2.1 _ (copied l hl hcur hsz)
  have bc : Below w1.heap.size w1 (m.setRow w1.heap.size (cb l ++ cur.toList.drop (cb l).length).toArray) := below_setRow bm (Nat.le_refl _) _
  have hzz : w1.heap.size < (m.setRow w1.heap.size (cb l ++ cur.toList.drop (cb l).length).toArray).heap.size := World.block_lt_of_cell? _ _ iv.1
  have HI := Lib.hid (And.intro iv (And.intro bc (And.intro hsrc (And.intro hcur (And.intro hsz hzz)))))
  clear iv bc hsrc hcur hsz hown hgrow bm hzz
  go_wp2_with (refine wpList_copy_own rfl (.tmp 23) (.tmp 24) 22 22 rfl 5 Try.underlying22 (by kernel_rfl) w1.heap.size 0 n n ⟨b, off, none⟩ n cap rfl rfl cur 5 HI.out.2.2.2.1 (cb l) (by rw [cb_length, hl]; simp) HI.out.2.2.1 (by rw [cb_length, hl, HI.out.2.2.2.2.1]; omega) (cb_one _) ?_; refine Hid.out ?_)
  refine Lib.hid ?_
  obtain ⟨v, hv⟩ : ∃ v, v = m.setRow w1.heap.size (cb l ++ cur.toList.drop (cb l).length).toArray := ⟨_, rfl⟩
  rw [← hv]
  have iv := HI.out.1
  have bc := HI.out.2.1
  have hzz := HI.out.2.2.2.2.2
  rw [← hv] at iv bc hzz
  clear hv HI
  have HA := Lib.hid (And.intro iv bc)
  obtain ⟨d0, d1, d2, d3⟩ := iv
  clear bc
  go_wp2_with fail
  refine (zzindex v.heap.size 0 4 4 129 48 129 48 _ (by omega) (by omega) (at4_new v 129 48 129 48) (by unfold Code4; omega)).mono ?_
  rintro e w2 ⟨rfl, q2, rfl⟩
  rw [idx_first]
  have bx : ∀ X, Below v.heap.size v ((v.alloc X).drewN q2) := fun X => below_drewN ((Below.refl _ _).alloc (Nat.le_refl _) X) q2
  go_wp2_with fail
  refine (zzindex w1.heap.size 0 n n c0 c1 c2 c3 _ h4 (by omega) (HA.out.1.on (bx _) hzz) HH.out.2.2.1).mono ?_
  rintro e w3 ⟨rfl, q3, hq3⟩
  rw [← HH.out.2.2.2.1]
  have by3 : Below v.heap.size v w3 := by rw [hq3]; exact below_drewN (bx _) q3
  clear bx hq3
  obtain ⟨r0, r1, r2, r3⟩ := HA.out.1.on by3 hzz
  have hz3 : w1.heap.size < w3.heap.size := by have := by3.size; omega
  clear d0 d1 d2 d3
  have hdec : (c0 == 254) = false ∨ ((c0 == 254) = true ∧ (c1 == 57) = false) ∨ ((c0 == 254) = true ∧ (c1 == 57) = true ∧ (c2 == 254) = false) ∨ ((c0 == 254) = true ∧ (c1 == 57) = true ∧ (c2 == 254) = true ∧ (c3 == 57) = false) := by
    by_cases u0 : c0 = 254
    · by_cases u1 : c1 = 57
      · by_cases u2 : c2 = 254
        · simp only [beq_iff_eq, beq_eq_false_iff_ne]; omega
        · simp only [beq_iff_eq, beq_eq_false_iff_ne]; omega
      · simp only [beq_iff_eq, beq_eq_false_iff_ne]; omega
    · simp only [beq_iff_eq, beq_eq_false_iff_ne]; omega
  have HDX := Lib.hid hdec
  clear hdec
  have hcode : Code4 c0 c1 c2 (c3 + 1) := by unfold Code4; omega
  have hidx : idx c0 c1 c2 (c3 + 1) = I + 1 := by rw [HH.out.2.2.2.1]; unfold idx; omega
  have HID := Lib.hid (And.intro hcode hidx)
  clear hcode hidx
  have hz3' : w1.heap.size < w3.heap.size := hz3
  rcases HDX.out with t0 | ⟨t0, t1⟩ | ⟨t0, t1, t2⟩ | ⟨t0, t1, t2, t3⟩
  all_goals
    go_wp2
    go_region
    all_goals
      go_wp2_with fail
      refine (zzindex w3.heap.size 0 4 4 c0 c1 c2 (c3 + 1) _ (by omega) (by omega) (by refine At4.on (w := w3.alloc (.cells #[.int .u8 c0, .int .u8 c1, .int .u8 c2, .int .u8 (c3 + 1)] 5)) (at4_new w3 c0 c1 c2 (c3 + 1)) (B := w3.heap.size + 1) ⟨rfl, rfl, rfl, Nat.le_refl _, fun _ _ => rfl⟩ (by omega)) HID.out.1).mono ?_
      rintro e w4 ⟨rfl, q4, hq4⟩
      rw [HID.out.2]
      go_wp2
      go_ret
      exact ⟨rfl, below_drewN (HA.out.2.trans ((by3.mono HA.out.2.size).trans ((Below.refl w1.heap.size w3).alloc (by omega) _))) _⟩


set_option maxRecDepth 100000 in
set_option maxHeartbeats 6400000 in
theorem succ_2 (x : Addr) (n cap : Nat) (l : List Int) (c0 c1 c2 c3 : Int) (w : World) (hn : n ≤ 1048576) (h4 : 4 ≤ n) (hl : l.length = n) (hc : ∀ j (h : j < l.length), w.cell? (x.add j) = some (.int .u8 l[j]))
    (e0 : l[0]? = some c0) (e1 : l[1]? = some c1) (e2 : l[2]? = some c2) (e3 : l[3]? = some c3) (hcd : Code4 c0 c1 c2 c3) (hge3 : 57 ≤ c3) (hlt : c2 < 254) :
    Calls Try.prog 3 #[.slice (some x) n cap] w fun e w' => e = .returned (.bool true) ∧ Below w.heap.size w w' := by
  have hn22 := fun (w : World) a n c => run_neq_slice_nil_any (P := Try.prog) w 22 5 a n c 0 0 Try.underlying22
  obtain ⟨i5, hi5, hy0, hy1, hy2⟩ := info_parts infoByte
  have g0 : ∀ W : World, (∀ k (h : k < l.length), W.cell? ⟨w.heap.size, k, none⟩ = some (.int .u8 l[k])) → At4 W w.heap.size 0 c0 c1 c2 c3 := by
    intro W h
    have k0 := h 0 (by omega); have k1 := h 1 (by omega); have k2 := h 2 (by omega); have k3 := h 3 (by omega)
    rw [List.getElem?_eq_getElem (by omega)] at e0 e1 e2 e3
    rw [Option.some.inj e0] at k0
    rw [Option.some.inj e1] at k1
    rw [Option.some.inj e2] at k2
    rw [Option.some.inj e3] at k3
    exact ⟨k0, k1, k2, k3⟩
  have hsp : ∃ b off, x = ⟨b, off, none⟩ ∧ At4 w b off c0 c1 c2 c3 := by
    obtain ⟨b, off, sp⟩ := x
    have hs0 : sp = none := by simpa [Addr.add] using World.cell?_spot (hc 0 (by omega))
    subst hs0
    have k0 := hc 0 (by omega); have k1 := hc 1 (by omega); have k2 := hc 2 (by omega); have k3 := hc 3 (by omega)
    rw [Addr.add_lit] at k0 k1 k2 k3
    rw [List.getElem?_eq_getElem (by omega)] at e0 e1 e2 e3
    rw [Option.some.inj e0] at k0
    rw [Option.some.inj e1] at k1
    rw [Option.some.inj e2] at k2
    rw [Option.some.inj e3] at k3
    exact ⟨b, off, rfl, k0, k1, k2, k3⟩
  obtain ⟨b, off, rfl, ha⟩ := hsp
  have hib := idx_bounds c0 c1 c2 c3 hcd
  obtain ⟨I, hI⟩ : ∃ I, I = idx c0 c1 c2 c3 := ⟨_, rfl⟩
  rw [← hI] at hib
  obtain ⟨hI0, hI1⟩ := hib
  have HH := Lib.hid (And.intro hc (And.intro g0 (And.intro hcd (And.intro hI ha))))
  obtain ⟨⟨a1, a2⟩, ⟨a3, a4⟩, ⟨a5, a6⟩, ⟨a7, a8⟩⟩ := hcd
  clear hc g0 e0 e1 e2 e3 hI ha
  go_enter Try.func3, Try.ntmps3
  go_wp2_with fail
  refine (zz_small6 _ n cap w hn).mono ?_
  rintro e w0 ⟨rfl, rfl⟩
  go_wp2_with fail
  refine (valid_yes b off n cap c0 c1 c2 c3 w0 h4 (by omega) HH.out.2.2.2.2 HH.out.2.2.1).mono ?_
  rintro e w1 ⟨rfl, rfl⟩
  go_wp2_with (at_make; refine wpList_make_full _ rfl _ _ 22 rfl w1.heap.size 5 i5 (.int .u8 0) 1 Try.underlying22 hi5 hy0 hy1 .i64 .i64 _ _ n rfl rfl rfl rfl (by rw [hy2]; omega) (by unfold maxLen; omega) (Nat.le_refl _) ?_)
  intro m hown hgrow
  have bm : Below w1.heap.size w1 m := (Below.refl _ _).grown hgrow (Nat.le_refl _) (fun k hk => by cases hk)
  obtain ⟨cur, hcur, hsz⟩ := made_block hown
  have hsrc := cb_src l ⟨b, off, none⟩ w1 m bm HH.out.1
  have iv := HH.out.2.1 _ (copied l hl hcur hsz)
  have bc : Below w1.heap.size w1 (m.setRow w1.heap.size (cb l ++ cur.toList.drop (cb l).length).toArray) := below_setRow bm (Nat.le_refl _) _
  have hzz : w1.heap.size < (m.setRow w1.heap.size (cb l ++ cur.toList.drop (cb l).length).toArray).heap.size := World.block_lt_of_cell? _ _ iv.1
  have HI := Lib.hid (And.intro iv (And.intro bc (And.intro hsrc (And.intro hcur (And.intro hsz hzz)))))
  clear iv bc hsrc hcur hsz hown hgrow bm hzz
  go_wp2_with (refine wpList_copy_own rfl (.tmp 23) (.tmp 24) 22 22 rfl 5 Try.underlying22 (by kernel_rfl) w1.heap.size 0 n n ⟨b, off, none⟩ n cap rfl rfl cur 5 HI.out.2.2.2.1 (cb l) (by rw [cb_length, hl]; simp) HI.out.2.2.1 (by rw [cb_length, hl, HI.out.2.2.2.2.1]; omega) (cb_one _) ?_; refine Hid.out ?_)
  refine Lib.hid ?_
  obtain ⟨v, hv⟩ : ∃ v, v = m.setRow w1.heap.size (cb l ++ cur.toList.drop (cb l).length).toArray := ⟨_, rfl⟩
  rw [← hv]
  have iv := HI.out.1
  have bc := HI.out.2.1
  have hzz := HI.out.2.2.2.2.2
  rw [← hv] at iv bc hzz
  clear hv HI
  have HA := Lib.hid (And.intro iv bc)
  obtain ⟨d0, d1, d2, d3⟩ := iv
  clear bc
  go_wp2_with fail
  refine (zzindex v.heap.size 0 4 4 129 48 129 48 _ (by omega) (by omega) (at4_new v 129 48 129 48) (by unfold Code4; omega)).mono ?_
  rintro e w2 ⟨rfl, q2, rfl⟩
  rw [idx_first]
  have bx : ∀ X, Below v.heap.size v ((v.alloc X).drewN q2) := fun X => below_drewN ((Below.refl _ _).alloc (Nat.le_refl _) X) q2
  go_wp2_with fail
  refine (zzindex w1.heap.size 0 n n c0 c1 c2 c3 _ h4 (by omega) (HA.out.1.on (bx _) hzz) HH.out.2.2.1).mono ?_
  rintro e w3 ⟨rfl, q3, hq3⟩
  rw [← HH.out.2.2.2.1]
  have by3 : Below v.heap.size v w3 := by rw [hq3]; exact below_drewN (bx _) q3
  clear bx hq3
  obtain ⟨r0, r1, r2, r3⟩ := HA.out.1.on by3 hzz
  have hz3 : w1.heap.size < w3.heap.size := by have := by3.size; omega
  clear d0 d1 d2 d3
  have hdec : (c0 == 254) = false ∨ ((c0 == 254) = true ∧ (c1 == 57) = false) ∨ ((c0 == 254) = true ∧ (c1 == 57) = true ∧ (c2 == 254) = false) := by
    by_cases u0 : c0 = 254
    · by_cases u1 : c1 = 57
      · by_cases u2 : c2 = 254
        · simp only [beq_iff_eq, beq_eq_false_iff_ne]; omega
        · simp only [beq_iff_eq, beq_eq_false_iff_ne]; omega
      · simp only [beq_iff_eq, beq_eq_false_iff_ne]; omega
    · simp only [beq_iff_eq, beq_eq_false_iff_ne]; omega
  have HDX := Lib.hid hdec
  clear hdec
  have hcode : Code4 c0 c1 (c2 + 1) 48 := by unfold Code4; omega
  have hidx : idx c0 c1 (c2 + 1) 48 = I + 1 := by rw [HH.out.2.2.2.1]; unfold idx; omega
  have HID := Lib.hid (And.intro hcode hidx)
  clear hcode hidx
  have hz3' : w1.heap.size < w3.heap.size := hz3
  rcases HDX.out with t0 | ⟨t0, t1⟩ | ⟨t0, t1, t2⟩
  all_goals
    go_wp2
    go_region
    all_goals
      go_wp2_with fail
      refine (zzindex w3.heap.size 0 4 4 c0 c1 (c2 + 1) 48 _ (by omega) (by omega) (by refine At4.on (w := w3.alloc (.cells #[.int .u8 c0, .int .u8 c1, .int .u8 (c2 + 1), .int .u8 48] 5)) (at4_new w3 c0 c1 (c2 + 1) 48) (B := w3.heap.size + 1) ⟨rfl, rfl, rfl, Nat.le_refl _, fun _ _ => rfl⟩ (by omega)) HID.out.1).mono ?_
      rintro e w4 ⟨rfl, q4, hq4⟩
      rw [HID.out.2]
      go_wp2
      go_ret
      exact ⟨rfl, below_drewN (HA.out.2.trans ((by3.mono HA.out.2.size).trans ((Below.refl w1.heap.size w3).alloc (by omega) _))) _⟩


set_option maxRecDepth 100000 in
set_option maxHeartbeats 6400000 in
theorem succ_3 (x : Addr) (n cap : Nat) (l : List Int) (c0 c1 c2 c3 : Int) (w : World) (hn : n ≤ 1048576) (h4 : 4 ≤ n) (hl : l.length = n) (hc : ∀ j (h : j < l.length), w.cell? (x.add j) = some (.int .u8 l[j]))
    (e0 : l[0]? = some c0) (e1 : l[1]? = some c1) (e2 : l[2]? = some c2) (e3 : l[3]? = some c3) (hcd : Code4 c0 c1 c2 c3) (hge3 : 57 ≤ c3) (hge2 : 254 ≤ c2) (hlt : c1 < 57) :
    Calls Try.prog 3 #[.slice (some x) n cap] w fun e w' => e = .returned (.bool true) ∧ Below w.heap.size w w' := by
  have hn22 := fun (w : World) a n c => run_neq_slice_nil_any (P := Try.prog) w 22 5 a n c 0 0 Try.underlying22
  obtain ⟨i5, hi5, hy0, hy1, hy2⟩ := info_parts infoByte
  have g0 : ∀ W : World, (∀ k (h : k < l.length), W.cell? ⟨w.heap.size, k, none⟩ = some (.int .u8 l[k])) → At4 W w.heap.size 0 c0 c1 c2 c3 := by
    intro W h
    have k0 := h 0 (by omega); have k1 := h 1 (by omega); have k2 := h 2 (by omega); have k3 := h 3 (by omega)
    rw [List.getElem?_eq_getElem (by omega)] at e0 e1 e2 e3
    rw [Option.some.inj e0] at k0
    rw [Option.some.inj e1] at k1
    rw [Option.some.inj e2] at k2
    rw [Option.some.inj e3] at k3
    exact ⟨k0, k1, k2, k3⟩
  have hsp : ∃ b off, x = ⟨b, off, none⟩ ∧ At4 w b off c0 c1 c2 c3 := by
    obtain ⟨b, off, sp⟩ := x
    have hs0 : sp = none := by simpa [Addr.add] using World.cell?_spot (hc 0 (by omega))
    subst hs0
    have k0 := hc 0 (by omega); have k1 := hc 1 (by omega); have k2 := hc 2 (by omega); have k3 := hc 3 (by omega)
    rw [Addr.add_lit] at k0 k1 k2 k3
    rw [List.getElem?_eq_getElem (by omega)] at e0 e1 e2 e3
    rw [Option.some.inj e0] at k0
    rw [Option.some.inj e1] at k1
    rw [Option.some.inj e2] at k2
    rw [Option.some.inj e3] at k3
    exact ⟨b, off, rfl, k0, k1, k2, k3⟩
  obtain ⟨b, off, rfl, ha⟩ := hsp
  have hib := idx_bounds c0 c1 c2 c3 hcd
  obtain ⟨I, hI⟩ : ∃ I, I = idx c0 c1 c2 c3 := ⟨_, rfl⟩
  rw [← hI] at hib
  obtain ⟨hI0, hI1⟩ := hib
  have HH := Lib.hid (And.intro hc (And.intro g0 (And.intro hcd (And.intro hI ha))))
  obtain ⟨⟨a1, a2⟩, ⟨a3, a4⟩, ⟨a5, a6⟩, ⟨a7, a8⟩⟩ := hcd
  clear hc g0 e0 e1 e2 e3 hI ha
  go_enter Try.func3, Try.ntmps3
  go_wp2_with fail
  refine (zz_small6 _ n cap w hn).mono ?_
  rintro e w0 ⟨rfl, rfl⟩
  go_wp2_with fail
  refine (valid_yes b off n cap c0 c1 c2 c3 w0 h4 (by omega) HH.out.2.2.2.2 HH.out.2.2.1).mono ?_
  rintro e w1 ⟨rfl, rfl⟩
  go_wp2_with (at_make; refine wpList_make_full _ rfl _ _ 22 rfl w1.heap.size 5 i5 (.int .u8 0) 1 Try.underlying22 hi5 hy0 hy1 .i64 .i64 _ _ n rfl rfl rfl rfl (by rw [hy2]; omega) (by unfold maxLen; omega) (Nat.le_refl _) ?_)
  intro m hown hgrow
  have bm : Below w1.heap.size w1 m := (Below.refl _ _).grown hgrow (Nat.le_refl _) (fun k hk => by cases hk)
  obtain ⟨cur, hcur, hsz⟩ := made_block hown
  have hsrc := cb_src l ⟨b, off, none⟩ w1 m bm HH.out.1
  have iv := HH.out.2.1 _ (copied l hl hcur hsz)
  have bc : Below w1.heap.size w1 (m.setRow w1.heap.size (cb l ++ cur.toList.drop (cb l).length).toArray) := below_setRow bm (Nat.le_refl _) _
  have hzz : w1.heap.size < (m.setRow w1.heap.size (cb l ++ cur.toList.drop (cb l).length).toArray).heap.size := World.block_lt_of_cell? _ _ iv.1
  have HI := Lib.hid (And.intro iv (And.intro bc (And.intro hsrc (And.intro hcur (And.intro hsz hzz)))))
  clear iv bc hsrc hcur hsz hown hgrow bm hzz
  go_wp2_with (refine wpList_copy_own rfl (.tmp 23) (.tmp 24) 22 22 rfl 5 Try.underlying22 (by kernel_rfl) w1.heap.size 0 n n ⟨b, off, none⟩ n cap rfl rfl cur 5 HI.out.2.2.2.1 (cb l) (by rw [cb_length, hl]; simp) HI.out.2.2.1 (by rw [cb_length, hl, HI.out.2.2.2.2.1]; omega) (cb_one _) ?_; refine Hid.out ?_)
  refine Lib.hid ?_
  obtain ⟨v, hv⟩ : ∃ v, v = m.setRow w1.heap.size (cb l ++ cur.toList.drop (cb l).length).toArray := ⟨_, rfl⟩
  rw [← hv]
  have iv := HI.out.1
  have bc := HI.out.2.1
  have hzz := HI.out.2.2.2.2.2
  rw [← hv] at iv bc hzz
  clear hv HI
  have HA := Lib.hid (And.intro iv bc)
  obtain ⟨d0, d1, d2, d3⟩ := iv
  clear bc
  go_wp2_with fail
  refine (zzindex v.heap.size 0 4 4 129 48 129 48 _ (by omega) (by omega) (at4_new v 129 48 129 48) (by unfold Code4; omega)).mono ?_
  rintro e w2 ⟨rfl, q2, rfl⟩
  rw [idx_first]
  have bx : ∀ X, Below v.heap.size v ((v.alloc X).drewN q2) := fun X => below_drewN ((Below.refl _ _).alloc (Nat.le_refl _) X) q2
  go_wp2_with fail
  refine (zzindex w1.heap.size 0 n n c0 c1 c2 c3 _ h4 (by omega) (HA.out.1.on (bx _) hzz) HH.out.2.2.1).mono ?_
  rintro e w3 ⟨rfl, q3, hq3⟩
  rw [← HH.out.2.2.2.1]
  have by3 : Below v.heap.size v w3 := by rw [hq3]; exact below_drewN (bx _) q3
  clear bx hq3
  obtain ⟨r0, r1, r2, r3⟩ := HA.out.1.on by3 hzz
  have hz3 : w1.heap.size < w3.heap.size := by have := by3.size; omega
  clear d0 d1 d2 d3
  have hdec : (c0 == 254) = false ∨ ((c0 == 254) = true ∧ (c1 == 57) = false) := by
    by_cases u0 : c0 = 254
    · by_cases u1 : c1 = 57
      · by_cases u2 : c2 = 254
        · simp only [beq_iff_eq, beq_eq_false_iff_ne]; omega
        · simp only [beq_iff_eq, beq_eq_false_iff_ne]; omega
      · simp only [beq_iff_eq, beq_eq_false_iff_ne]; omega
    · simp only [beq_iff_eq, beq_eq_false_iff_ne]; omega
  have HDX := Lib.hid hdec
  clear hdec
  have hcode : Code4 c0 (c1 + 1) 129 48 := by unfold Code4; omega
  have hidx : idx c0 (c1 + 1) 129 48 = I + 1 := by rw [HH.out.2.2.2.1]; unfold idx; omega
  have HID := Lib.hid (And.intro hcode hidx)
  clear hcode hidx
  have hz3' : w1.heap.size < w3.heap.size := hz3
  rcases HDX.out with t0 | ⟨t0, t1⟩
  all_goals
    go_wp2
    go_region
    all_goals
      go_wp2_with fail
      refine (zzindex w3.heap.size 0 4 4 c0 (c1 + 1) 129 48 _ (by omega) (by omega) (by refine At4.on (w := w3.alloc (.cells #[.int .u8 c0, .int .u8 (c1 + 1), .int .u8 129, .int .u8 48] 5)) (at4_new w3 c0 (c1 + 1) 129 48) (B := w3.heap.size + 1) ⟨rfl, rfl, rfl, Nat.le_refl _, fun _ _ => rfl⟩ (by omega)) HID.out.1).mono ?_
      rintro e w4 ⟨rfl, q4, hq4⟩
      rw [HID.out.2]
      go_wp2
      go_ret
      exact ⟨rfl, below_drewN (HA.out.2.trans ((by3.mono HA.out.2.size).trans ((Below.refl w1.heap.size w3).alloc (by omega) _))) _⟩


set_option maxRecDepth 100000 in
set_option maxHeartbeats 6400000 in
theorem succ_4 (x : Addr) (n cap : Nat) (l : List Int) (c0 c1 c2 c3 : Int) (w : World) (hn : n ≤ 1048576) (h4 : 4 ≤ n) (hl : l.length = n) (hc : ∀ j (h : j < l.length), w.cell? (x.add j) = some (.int .u8 l[j]))
    (e0 : l[0]? = some c0) (e1 : l[1]? = some c1) (e2 : l[2]? = some c2) (e3 : l[3]? = some c3) (hcd : Code4 c0 c1 c2 c3) (hge3 : 57 ≤ c3) (hge2 : 254 ≤ c2) (hge1 : 57 ≤ c1) (hlt : c0 < 254) :
    Calls Try.prog 3 #[.slice (some x) n cap] w fun e w' => e = .returned (.bool true) ∧ Below w.heap.size w w' := by
  have hn22 := fun (w : World) a n c => run_neq_slice_nil_any (P := Try.prog) w 22 5 a n c 0 0 Try.underlying22
  obtain ⟨i5, hi5, hy0, hy1, hy2⟩ := info_parts infoByte
  have g0 : ∀ W : World, (∀ k (h : k < l.length), W.cell? ⟨w.heap.size, k, none⟩ = some (.int .u8 l[k])) → At4 W w.heap.size 0 c0 c1 c2 c3 := by
    intro W h
    have k0 := h 0 (by omega); have k1 := h 1 (by omega); have k2 := h 2 (by omega); have k3 := h 3 (by omega)
    rw [List.getElem?_eq_getElem (by omega)] at e0 e1 e2 e3
    rw [Option.some.inj e0] at k0
    rw [Option.some.inj e1] at k1
    rw [Option.some.inj e2] at k2
    rw [Option.some.inj e3] at k3
    exact ⟨k0, k1, k2, k3⟩
  have hsp : ∃ b off, x = ⟨b, off, none⟩ ∧ At4 w b off c0 c1 c2 c3 := by
    obtain ⟨b, off, sp⟩ := x
    have hs0 : sp = none := by simpa [Addr.add] using World.cell?_spot (hc 0 (by omega))
    subst hs0
    have k0 := hc 0 (by omega); have k1 := hc 1 (by omega); have k2 := hc 2 (by omega); have k3 := hc 3 (by omega)
    rw [Addr.add_lit] at k0 k1 k2 k3
    rw [List.getElem?_eq_getElem (by omega)] at e0 e1 e2 e3
    rw [Option.some.inj e0] at k0
    rw [Option.some.inj e1] at k1
    rw [Option.some.inj e2] at k2
    rw [Option.some.inj e3] at k3
    exact ⟨b, off, rfl, k0, k1, k2, k3⟩
  obtain ⟨b, off, rfl, ha⟩ := hsp
  have hib := idx_bounds c0 c1 c2 c3 hcd
  obtain ⟨I, hI⟩ : ∃ I, I = idx c0 c1 c2 c3 := ⟨_, rfl⟩
  rw [← hI] at hib
  obtain ⟨hI0, hI1⟩ := hib
  have HH := Lib.hid (And.intro hc (And.intro g0 (And.intro hcd (And.intro hI ha))))
  obtain ⟨⟨a1, a2⟩, ⟨a3, a4⟩, ⟨a5, a6⟩, ⟨a7, a8⟩⟩ := hcd
  clear hc g0 e0 e1 e2 e3 hI ha
  go_enter Try.func3, Try.ntmps3
  go_wp2_with fail
  refine (zz_small6 _ n cap w hn).mono ?_
  rintro e w0 ⟨rfl, rfl⟩
  go_wp2_with fail
  refine (valid_yes b off n cap c0 c1 c2 c3 w0 h4 (by omega) HH.out.2.2.2.2 HH.out.2.2.1).mono ?_
  rintro e w1 ⟨rfl, rfl⟩
  go_wp2_with (at_make; refine wpList_make_full _ rfl _ _ 22 rfl w1.heap.size 5 i5 (.int .u8 0) 1 Try.underlying22 hi5 hy0 hy1 .i64 .i64 _ _ n rfl rfl rfl rfl (by rw [hy2]; omega) (by unfold maxLen; omega) (Nat.le_refl _) ?_)
  intro m hown hgrow
  have bm : Below w1.heap.size w1 m := (Below.refl _ _).grown hgrow (Nat.le_refl _) (fun k hk => by cases hk)
  obtain ⟨cur, hcur, hsz⟩ := made_block hown
  have hsrc := cb_src l ⟨b, off, none⟩ w1 m bm HH.out.1
  have iv := HH.out.2.1 _ (copied l hl hcur hsz)
  have bc : Below w1.heap.size w1 (m.setRow w1.heap.size (cb l ++ cur.toList.drop (cb l).length).toArray) := below_setRow bm (Nat.le_refl _) _
  have hzz : w1.heap.size < (m.setRow w1.heap.size (cb l ++ cur.toList.drop (cb l).length).toArray).heap.size := World.block_lt_of_cell? _ _ iv.1
  have HI := Lib.hid (And.intro iv (And.intro bc (And.intro hsrc (And.intro hcur (And.intro hsz hzz)))))
  clear iv bc hsrc hcur hsz hown hgrow bm hzz
  go_wp2_with (refine wpList_copy_own rfl (.tmp 23) (.tmp 24) 22 22 rfl 5 Try.underlying22 (by kernel_rfl) w1.heap.size 0 n n ⟨b, off, none⟩ n cap rfl rfl cur 5 HI.out.2.2.2.1 (cb l) (by rw [cb_length, hl]; simp) HI.out.2.2.1 (by rw [cb_length, hl, HI.out.2.2.2.2.1]; omega) (cb_one _) ?_; refine Hid.out ?_)
  refine Lib.hid ?_
  obtain ⟨v, hv⟩ : ∃ v, v = m.setRow w1.heap.size (cb l ++ cur.toList.drop (cb l).length).toArray := ⟨_, rfl⟩
  rw [← hv]
  have iv := HI.out.1
  have bc := HI.out.2.1
  have hzz := HI.out.2.2.2.2.2
  rw [← hv] at iv bc hzz
  clear hv HI
  have HA := Lib.hid (And.intro iv bc)
  obtain ⟨d0, d1, d2, d3⟩ := iv
  clear bc
  go_wp2_with fail
  refine (zzindex v.heap.size 0 4 4 129 48 129 48 _ (by omega) (by omega) (at4_new v 129 48 129 48) (by unfold Code4; omega)).mono ?_
  rintro e w2 ⟨rfl, q2, rfl⟩
  rw [idx_first]
  have bx : ∀ X, Below v.heap.size v ((v.alloc X).drewN q2) := fun X => below_drewN ((Below.refl _ _).alloc (Nat.le_refl _) X) q2
  go_wp2_with fail
  refine (zzindex w1.heap.size 0 n n c0 c1 c2 c3 _ h4 (by omega) (HA.out.1.on (bx _) hzz) HH.out.2.2.1).mono ?_
  rintro e w3 ⟨rfl, q3, hq3⟩
  rw [← HH.out.2.2.2.1]
  have by3 : Below v.heap.size v w3 := by rw [hq3]; exact below_drewN (bx _) q3
  clear bx hq3
  obtain ⟨r0, r1, r2, r3⟩ := HA.out.1.on by3 hzz
  have hz3 : w1.heap.size < w3.heap.size := by have := by3.size; omega
  clear d0 d1 d2 d3
  have hdec : (c0 == 254) = false := by
    by_cases u0 : c0 = 254
    · by_cases u1 : c1 = 57
      · by_cases u2 : c2 = 254
        · simp only [beq_iff_eq, beq_eq_false_iff_ne]; omega
        · simp only [beq_iff_eq, beq_eq_false_iff_ne]; omega
      · simp only [beq_iff_eq, beq_eq_false_iff_ne]; omega
    · simp only [beq_iff_eq, beq_eq_false_iff_ne]; omega
  have HDX := Lib.hid hdec
  clear hdec
  have hcode : Code4 (c0 + 1) 48 129 48 := by unfold Code4; omega
  have hidx : idx (c0 + 1) 48 129 48 = I + 1 := by rw [HH.out.2.2.2.1]; unfold idx; omega
  have HID := Lib.hid (And.intro hcode hidx)
  clear hcode hidx
  have hz3' : w1.heap.size < w3.heap.size := hz3
  rcases HDX.out with t0
  all_goals
    go_wp2
    go_region
    all_goals
      go_wp2_with fail
      refine (zzindex w3.heap.size 0 4 4 (c0 + 1) 48 129 48 _ (by omega) (by omega) (by refine At4.on (w := w3.alloc (.cells #[.int .u8 (c0 + 1), .int .u8 48, .int .u8 129, .int .u8 48] 5)) (at4_new w3 (c0 + 1) 48 129 48) (B := w3.heap.size + 1) ⟨rfl, rfl, rfl, Nat.le_refl _, fun _ _ => rfl⟩ (by omega)) HID.out.1).mono ?_
      rintro e w4 ⟨rfl, q4, hq4⟩
      rw [HID.out.2]
      go_wp2
      go_ret
      exact ⟨rfl, below_drewN (HA.out.2.trans ((by3.mono HA.out.2.size).trans ((Below.refl w1.heap.size w3).alloc (by omega) _))) _⟩

end Go.Proofs.Qxb6615892a
