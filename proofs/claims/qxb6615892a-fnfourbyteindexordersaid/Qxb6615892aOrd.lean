/-
  THE LAW 'FnFourByteIndexOrder' (seat b6615892a): its walk.
-/
import Derived.Test.Qxb6615892aSucc2
namespace Go.Proofs.Qxb6615892a
open Go.RowKit
set_option linter.unusedVariables false
set_option linter.unusedSimpArgs false

/-- The four bytes of a copied row. -/
theorem at4_of_list {W : World} {g n : Nat} {l : List Int} {c0 c1 c2 c3 : Int} (h4 : 4 ≤ n) (hl : l.length = n) (e0 : l[0]? = some c0) (e1 : l[1]? = some c1) (e2 : l[2]? = some c2) (e3 : l[3]? = some c3) (h : ∀ k (h : k < l.length), W.cell? ⟨g, k, none⟩ = some (.int .u8 l[k])) : At4 W g 0 c0 c1 c2 c3 := by
  have k0 := h 0 (by omega); have k1 := h 1 (by omega); have k2 := h 2 (by omega); have k3 := h 3 (by omega)
  rw [List.getElem?_eq_getElem (by omega)] at e0 e1 e2 e3
  rw [Option.some.inj e0] at k0
  rw [Option.some.inj e1] at k1
  rw [Option.some.inj e2] at k2
  rw [Option.some.inj e3] at k3
  exact ⟨k0, k1, k2, k3⟩

theorem zz_any9 (a b : Option Addr) (n c m d : Nat) (w : World) (m1 : n ≤ 9223372036854775807) (m2 : m ≤ 9223372036854775807) : Calls Try.prog 9 #[.slice a n c, .slice b m d] w fun e w' => (∃ r, e = .returned (.bool r)) ∧ w' = w := by
  go_enter Try.func9, Try.ntmps9
  go_wp2
  all_goals
    go_ret
    exact ⟨⟨_, rfl⟩, rfl⟩

theorem zz_small9 (a b : Option Addr) (n c m d : Nat) (w : World) (hs : n + m ≤ 1048576) : Calls Try.prog 9 #[.slice a n c, .slice b m d] w fun e w' => e = .returned (.bool true) ∧ w' = w := by
  go_enter Try.func9, Try.ntmps9
  go_wp2
  go_ret
  exact ⟨rfl, rfl⟩

set_option maxRecDepth 100000 in
set_option maxHeartbeats 12800000 in
theorem ord_0l (ba oa bb ob n cap m cap2 : Nat) (la lb : List Int) (a0 a1 a2 a3 b0 b1 b2 b3 : Int) (w : World) (hn : n ≤ 1048576) (h4 : 4 ≤ n) (hm : m ≤ 1048576) (h4m : 4 ≤ m) (hsum : n + m ≤ 1048576)
    (hla : la.length = n) (hlb : lb.length = m) (hca : ∀ j (h : j < la.length), w.cell? ((⟨ba, oa, none⟩ : Addr).add j) = some (.int .u8 la[j])) (hcb : ∀ j (h : j < lb.length), w.cell? ((⟨bb, ob, none⟩ : Addr).add j) = some (.int .u8 lb[j]))
    (e0 : la[0]? = some a0) (e1 : la[1]? = some a1) (e2 : la[2]? = some a2) (e3 : la[3]? = some a3) (f0 : lb[0]? = some b0) (f1 : lb[1]? = some b1) (f2 : lb[2]? = some b2) (f3 : lb[3]? = some b3)
    (haa : At4 w ba oa a0 a1 a2 a3) (hbb : At4 w bb ob b0 b1 b2 b3) (ca : Code4 a0 a1 a2 a3) (cbd : Code4 b0 b1 b2 b3) (hd : a0 < b0) :
    Calls Try.prog 4 #[.slice (some ⟨ba, oa, none⟩) n cap, .slice (some ⟨bb, ob, none⟩) m cap2] w fun e w' => e = .returned (.bool true) ∧ Below w.heap.size w w' := by
  have hn22 := fun (w : World) a n c => run_neq_slice_nil_any (P := Try.prog) w 22 5 a n c 0 0 Try.underlying22
  obtain ⟨i5, hi5, hy0, hy1, hy2⟩ := info_parts infoByte
  have ga : ∀ (W : World) (g : Nat), (∀ k (h : k < la.length), W.cell? ⟨g, k, none⟩ = some (.int .u8 la[k])) → At4 W g 0 a0 a1 a2 a3 := fun W g h => at4_of_list h4 hla e0 e1 e2 e3 h
  have gb : ∀ (W : World) (g : Nat), (∀ k (h : k < lb.length), W.cell? ⟨g, k, none⟩ = some (.int .u8 lb[k])) → At4 W g 0 b0 b1 b2 b3 := fun W g h => at4_of_list h4m hlb f0 f1 f2 f3 h
  have hia := idx_bounds a0 a1 a2 a3 ca
  have hib := idx_bounds b0 b1 b2 b3 cbd
  obtain ⟨IA, hIA⟩ : ∃ I, I = idx a0 a1 a2 a3 := ⟨_, rfl⟩
  obtain ⟨IB, hIB⟩ : ∃ I, I = idx b0 b1 b2 b3 := ⟨_, rfl⟩
  rw [← hIA] at hia
  rw [← hIB] at hib
  obtain ⟨hA0, hA1⟩ := hia
  obtain ⟨hB0, hB1⟩ := hib
  have HH := Lib.hid (And.intro hca (And.intro hcb (And.intro ga (And.intro gb (And.intro ca (And.intro cbd (And.intro hIA (And.intro hIB (And.intro haa hbb)))))))))
  obtain ⟨⟨p1, p2⟩, ⟨p3, p4⟩, ⟨p5, p6⟩, ⟨p7, p8⟩⟩ := ca
  obtain ⟨⟨r1, r2⟩, ⟨r3, r4⟩, ⟨r5, r6⟩, ⟨r7, r8⟩⟩ := cbd
  clear hca hcb ga gb e0 e1 e2 e3 f0 f1 f2 f3 hIA hIB haa hbb
  go_enter Try.func4, Try.ntmps4
  go_wp2_with fail
  refine (zz_small9 _ _ n cap m cap2 w hsum).mono ?_
  rintro e w0 ⟨rfl, rfl⟩
  go_wp2_with fail
  refine (valid_yes ba oa n cap a0 a1 a2 a3 w0 h4 (by omega) HH.out.2.2.2.2.2.2.2.2.1 HH.out.2.2.2.2.1).mono ?_
  rintro e w1' ⟨rfl, rfl⟩
  go_wp2_with fail
  refine (valid_yes bb ob m cap2 b0 b1 b2 b3 w1' h4m (by omega) HH.out.2.2.2.2.2.2.2.2.2 HH.out.2.2.2.2.2.1).mono ?_
  rintro e w1 ⟨rfl, rfl⟩
  have bz : Below w1.heap.size w1 w1 := Below.refl _ _
  go_wp2_with (at_make; refine wpList_make_full _ rfl _ _ 22 rfl w1.heap.size 5 i5 (.int .u8 0) 1 Try.underlying22 hi5 hy0 hy1 .i64 .i64 _ _ n rfl rfl rfl rfl (by rw [hy2]; omega) (by unfold maxLen; omega) (Nat.le_refl _) ?_)
  intro m0 hown0 hgrow0
  have bm0 : Below w1.heap.size w1 m0 := (Below.refl _ _).grown hgrow0 (Nat.le_refl _) (fun k hk => by cases hk)
  obtain ⟨cur0, hcur0, hsz0⟩ := made_block hown0
  have bbm0 : Below w1.heap.size w1 m0 := bz.trans (bm0.mono bz.size)
  have hsrc0 := cb_src la ⟨ba, oa, none⟩ w1 m0 bbm0 HH.out.1
  have iv0 := HH.out.2.2.1 _ _ (copied la hla hcur0 hsz0)
  have bc0 : Below w1.heap.size w1 (m0.setRow w1.heap.size (cb la ++ cur0.toList.drop (cb la).length).toArray) := below_setRow bm0 (Nat.le_refl _) _
  have hzz0 : w1.heap.size < (m0.setRow w1.heap.size (cb la ++ cur0.toList.drop (cb la).length).toArray).heap.size := World.block_lt_of_cell? _ _ iv0.1
  have HI0 := Lib.hid (And.intro iv0 (And.intro bc0 (And.intro hsrc0 (And.intro hcur0 (And.intro hsz0 hzz0)))))
  clear iv0 bc0 hsrc0 hcur0 hsz0 hown0 hgrow0 bm0 hzz0 bbm0
  go_wp2_with (refine wpList_copy_own rfl (.tmp 42) (.tmp 43) 22 22 rfl 5 Try.underlying22 (by kernel_rfl) w1.heap.size 0 n n ⟨ba, oa, none⟩ n cap rfl rfl cur0 5 HI0.out.2.2.2.1 (cb la) (by rw [cb_length, hla]; simp) HI0.out.2.2.1 (by rw [cb_length, hla, HI0.out.2.2.2.2.1]; omega) (cb_one _) ?_; refine Hid.out ?_)
  refine Lib.hid ?_
  obtain ⟨v0, hv0⟩ : ∃ v, v = m0.setRow w1.heap.size (cb la ++ cur0.toList.drop (cb la).length).toArray := ⟨_, rfl⟩
  rw [← hv0]
  have iv0 := HI0.out.1
  have bc0 := HI0.out.2.1
  have hzz0 := HI0.out.2.2.2.2.2
  rw [← hv0] at iv0 bc0 hzz0
  clear hv0 HI0
  have bz0 : Below w1.heap.size w1 v0 := bc0
  go_wp2_with (at_make; refine wpList_make_full _ rfl _ _ 22 rfl v0.heap.size 5 i5 (.int .u8 0) 1 Try.underlying22 hi5 hy0 hy1 .i64 .i64 _ _ m rfl rfl rfl rfl (by rw [hy2]; omega) (by unfold maxLen; omega) (Nat.le_refl _) ?_)
  intro m1 hown1 hgrow1
  have bm1 : Below v0.heap.size v0 m1 := (Below.refl _ _).grown hgrow1 (Nat.le_refl _) (fun k hk => by cases hk)
  obtain ⟨cur1, hcur1, hsz1⟩ := made_block hown1
  have bbm1 : Below w1.heap.size w1 m1 := bz0.trans (bm1.mono bz0.size)
  have hsrc1 := cb_src lb ⟨bb, ob, none⟩ w1 m1 bbm1 HH.out.2.1
  have iv1 := HH.out.2.2.2.1 _ _ (copied lb hlb hcur1 hsz1)
  have bc1 : Below v0.heap.size v0 (m1.setRow v0.heap.size (cb lb ++ cur1.toList.drop (cb lb).length).toArray) := below_setRow bm1 (Nat.le_refl _) _
  have hzz1 : v0.heap.size < (m1.setRow v0.heap.size (cb lb ++ cur1.toList.drop (cb lb).length).toArray).heap.size := World.block_lt_of_cell? _ _ iv1.1
  have HI1 := Lib.hid (And.intro iv1 (And.intro bc1 (And.intro hsrc1 (And.intro hcur1 (And.intro hsz1 hzz1)))))
  clear iv1 bc1 hsrc1 hcur1 hsz1 hown1 hgrow1 bm1 hzz1 bbm1
  go_wp2_with (refine wpList_copy_own rfl (.tmp 51) (.tmp 52) 22 22 rfl 5 Try.underlying22 (by kernel_rfl) v0.heap.size 0 m m ⟨bb, ob, none⟩ m cap2 rfl rfl cur1 5 HI1.out.2.2.2.1 (cb lb) (by rw [cb_length, hlb]; simp) HI1.out.2.2.1 (by rw [cb_length, hlb, HI1.out.2.2.2.2.1]; omega) (cb_one _) ?_; refine Hid.out ?_)
  refine Lib.hid ?_
  obtain ⟨v1, hv1⟩ : ∃ v, v = m1.setRow v0.heap.size (cb lb ++ cur1.toList.drop (cb lb).length).toArray := ⟨_, rfl⟩
  rw [← hv1]
  have iv1 := HI1.out.1
  have bc1 := HI1.out.2.1
  have hzz1 := HI1.out.2.2.2.2.2
  rw [← hv1] at iv1 bc1 hzz1
  clear hv1 HI1
  have iva := iv0.on bc1 hzz0
  have bz1 : Below w1.heap.size w1 v1 := bz0.trans (bc1.mono bz0.size)
  have za : w1.heap.size < v1.heap.size := by have := bc1.size; omega
  have HA := Lib.hid (And.intro iva (And.intro iv1 bz1))
  clear iv0 bc0 hzz0 bz0 bz iva bc1 bz1
  clear iv1
  go_wp2_with fail
  refine (zzindex w1.heap.size 0 n n a0 a1 a2 a3 _ h4 (by omega) HA.out.1 HH.out.2.2.2.2.1).mono ?_
  rintro e w2 ⟨rfl, q2, rfl⟩
  rw [← HH.out.2.2.2.2.2.2.1]
  go_wp2_with fail
  refine (zzindex v0.heap.size 0 m m b0 b1 b2 b3 _ h4m (by omega) (HA.out.2.1.drewN _) HH.out.2.2.2.2.2.1).mono ?_
  rintro e w3 ⟨rfl, q3, rfl⟩
  rw [← HH.out.2.2.2.2.2.2.2.1]
  go_wp2_with fail
  refine (zzindex w1.heap.size 0 4 n a0 a1 a2 a3 _ (by omega) (by omega) (HA.out.1.drewN _) HH.out.2.2.2.2.1).mono ?_
  rintro e w4 ⟨rfl, q4, hq4⟩
  rw [← HH.out.2.2.2.2.2.2.1]
  have b4 : Below v1.heap.size v1 w4 := by rw [hq4]; exact below_drewN (below_drewN (Below.refl _ _) _) _
  have cA := HA.out.1.on b4 za
  have cB := HA.out.2.1.on b4 hzz1
  have bb4 : Below w1.heap.size w1 w4 := HA.out.2.2.trans (b4.mono HA.out.2.2.size)
  clear hq4 b4
  have za4 : w1.heap.size < w4.heap.size := World.block_lt_of_cell? _ _ cA.1
  have zb4 : v0.heap.size < w4.heap.size := World.block_lt_of_cell? _ _ cB.1
  clear za hzz1
  have HC := Lib.hid (And.intro cA (And.intro cB bb4))
  clear cA cB bb4
  have fx0 : (a0 != b0) = true := by rw [bne_iff_ne]; omega
  have fx1 : (a0 == b0) = false := by rw [beq_eq_false_iff_ne]; omega
  have fx2 : IA < IB := by rw [HH.out.2.2.2.2.2.2.1, HH.out.2.2.2.2.2.2.2.1]; unfold idx; omega
  have fx3 : (IA == IB) = false := by rw [beq_eq_false_iff_ne, HH.out.2.2.2.2.2.2.1, HH.out.2.2.2.2.2.2.2.1]; unfold idx; omega
  have hdd : a0 < b0 := by omega
  clear hd
  have ca0 := HC.out.1.1; have ca1 := HC.out.1.2.1; have ca2 := HC.out.1.2.2.1; have ca3 := HC.out.1.2.2.2
  have cb0 := HC.out.2.1.1; have cb1 := HC.out.2.1.2.1; have cb2 := HC.out.2.1.2.2.1; have cb3 := HC.out.2.1.2.2.2
  clear ca0 ca1 ca2 ca3 cb0 cb1 cb2 cb3
  have nn : ∀ j : Int, j < 4 → j < (n : Int) := fun j h => by omega
  have n0 : (0 : Int) < (n : Int) := by omega
  have n1 : (1 : Int) < (n : Int) := by omega
  have n2 : (2 : Int) < (n : Int) := by omega
  have n3 : (3 : Int) < (n : Int) := by omega
  have k0 : (0 : Int) < (m : Int) := by omega
  have k1 : (1 : Int) < (m : Int) := by omega
  have k2 : (2 : Int) < (m : Int) := by omega
  have k3 : (3 : Int) < (m : Int) := by omega
  clear nn
  go_wp2
  go_loopw [9, 10] (fun lex i wr => ∃ k : Nat, k ≤ 0 ∧ i = .int .i64 k ∧ lex = .int .i64 0 ∧ Below w4.heap.size w4 wr) (fun _ i _ => 5 - (RowKit.intOf i).toNat)
  case atStart => exact ⟨0, Nat.zero_le _, rfl, rfl, Below.refl _ _⟩
  case round =>
    obtain ⟨k, hk, rfl, rfl, hb⟩ := hrel
    have cA := HC.out.1.on hb za4
    have cB := HC.out.2.1.on hb zb4
    obtain ⟨x0, x1, x2, x3⟩ := cA
    obtain ⟨y0, y1, y2, y3⟩ := cB
    have bbr : Below w1.heap.size w1 wr := HC.out.2.2.trans (hb.mono HC.out.2.2.size)
    have HBR := Lib.hid (And.intro bbr hb)
    clear bbr hb
    rcases (show k = 0 from by omega) with rfl
    · go_wp2
      go_quiet (fail)
      go_wp2
      go_quiet (fail)
      go_wp2
      go_quiet (fail)
      go_wp2
      go_ret
      first | exact ⟨rfl, below_drewN HBR.out.1 _⟩ | exact ⟨rfl, below_drewN (below_drewN HBR.out.1 _) _⟩ | exact ⟨rfl, below_drewN (below_drewN (below_drewN HBR.out.1 _) _) _⟩

set_option maxRecDepth 100000 in
set_option maxHeartbeats 12800000 in
theorem ord_0g (ba oa bb ob n cap m cap2 : Nat) (la lb : List Int) (a0 a1 a2 a3 b0 b1 b2 b3 : Int) (w : World) (hn : n ≤ 1048576) (h4 : 4 ≤ n) (hm : m ≤ 1048576) (h4m : 4 ≤ m) (hsum : n + m ≤ 1048576)
    (hla : la.length = n) (hlb : lb.length = m) (hca : ∀ j (h : j < la.length), w.cell? ((⟨ba, oa, none⟩ : Addr).add j) = some (.int .u8 la[j])) (hcb : ∀ j (h : j < lb.length), w.cell? ((⟨bb, ob, none⟩ : Addr).add j) = some (.int .u8 lb[j]))
    (e0 : la[0]? = some a0) (e1 : la[1]? = some a1) (e2 : la[2]? = some a2) (e3 : la[3]? = some a3) (f0 : lb[0]? = some b0) (f1 : lb[1]? = some b1) (f2 : lb[2]? = some b2) (f3 : lb[3]? = some b3)
    (haa : At4 w ba oa a0 a1 a2 a3) (hbb : At4 w bb ob b0 b1 b2 b3) (ca : Code4 a0 a1 a2 a3) (cbd : Code4 b0 b1 b2 b3) (hd : a0 > b0) :
    Calls Try.prog 4 #[.slice (some ⟨ba, oa, none⟩) n cap, .slice (some ⟨bb, ob, none⟩) m cap2] w fun e w' => e = .returned (.bool true) ∧ Below w.heap.size w w' := by
  have hn22 := fun (w : World) a n c => run_neq_slice_nil_any (P := Try.prog) w 22 5 a n c 0 0 Try.underlying22
  obtain ⟨i5, hi5, hy0, hy1, hy2⟩ := info_parts infoByte
  have ga : ∀ (W : World) (g : Nat), (∀ k (h : k < la.length), W.cell? ⟨g, k, none⟩ = some (.int .u8 la[k])) → At4 W g 0 a0 a1 a2 a3 := fun W g h => at4_of_list h4 hla e0 e1 e2 e3 h
  have gb : ∀ (W : World) (g : Nat), (∀ k (h : k < lb.length), W.cell? ⟨g, k, none⟩ = some (.int .u8 lb[k])) → At4 W g 0 b0 b1 b2 b3 := fun W g h => at4_of_list h4m hlb f0 f1 f2 f3 h
  have hia := idx_bounds a0 a1 a2 a3 ca
  have hib := idx_bounds b0 b1 b2 b3 cbd
  obtain ⟨IA, hIA⟩ : ∃ I, I = idx a0 a1 a2 a3 := ⟨_, rfl⟩
  obtain ⟨IB, hIB⟩ : ∃ I, I = idx b0 b1 b2 b3 := ⟨_, rfl⟩
  rw [← hIA] at hia
  rw [← hIB] at hib
  obtain ⟨hA0, hA1⟩ := hia
  obtain ⟨hB0, hB1⟩ := hib
  have HH := Lib.hid (And.intro hca (And.intro hcb (And.intro ga (And.intro gb (And.intro ca (And.intro cbd (And.intro hIA (And.intro hIB (And.intro haa hbb)))))))))
  obtain ⟨⟨p1, p2⟩, ⟨p3, p4⟩, ⟨p5, p6⟩, ⟨p7, p8⟩⟩ := ca
  obtain ⟨⟨r1, r2⟩, ⟨r3, r4⟩, ⟨r5, r6⟩, ⟨r7, r8⟩⟩ := cbd
  clear hca hcb ga gb e0 e1 e2 e3 f0 f1 f2 f3 hIA hIB haa hbb
  go_enter Try.func4, Try.ntmps4
  go_wp2_with fail
  refine (zz_small9 _ _ n cap m cap2 w hsum).mono ?_
  rintro e w0 ⟨rfl, rfl⟩
  go_wp2_with fail
  refine (valid_yes ba oa n cap a0 a1 a2 a3 w0 h4 (by omega) HH.out.2.2.2.2.2.2.2.2.1 HH.out.2.2.2.2.1).mono ?_
  rintro e w1' ⟨rfl, rfl⟩
  go_wp2_with fail
  refine (valid_yes bb ob m cap2 b0 b1 b2 b3 w1' h4m (by omega) HH.out.2.2.2.2.2.2.2.2.2 HH.out.2.2.2.2.2.1).mono ?_
  rintro e w1 ⟨rfl, rfl⟩
  have bz : Below w1.heap.size w1 w1 := Below.refl _ _
  go_wp2_with (at_make; refine wpList_make_full _ rfl _ _ 22 rfl w1.heap.size 5 i5 (.int .u8 0) 1 Try.underlying22 hi5 hy0 hy1 .i64 .i64 _ _ n rfl rfl rfl rfl (by rw [hy2]; omega) (by unfold maxLen; omega) (Nat.le_refl _) ?_)
  intro m0 hown0 hgrow0
  have bm0 : Below w1.heap.size w1 m0 := (Below.refl _ _).grown hgrow0 (Nat.le_refl _) (fun k hk => by cases hk)
  obtain ⟨cur0, hcur0, hsz0⟩ := made_block hown0
  have bbm0 : Below w1.heap.size w1 m0 := bz.trans (bm0.mono bz.size)
  have hsrc0 := cb_src la ⟨ba, oa, none⟩ w1 m0 bbm0 HH.out.1
  have iv0 := HH.out.2.2.1 _ _ (copied la hla hcur0 hsz0)
  have bc0 : Below w1.heap.size w1 (m0.setRow w1.heap.size (cb la ++ cur0.toList.drop (cb la).length).toArray) := below_setRow bm0 (Nat.le_refl _) _
  have hzz0 : w1.heap.size < (m0.setRow w1.heap.size (cb la ++ cur0.toList.drop (cb la).length).toArray).heap.size := World.block_lt_of_cell? _ _ iv0.1
  have HI0 := Lib.hid (And.intro iv0 (And.intro bc0 (And.intro hsrc0 (And.intro hcur0 (And.intro hsz0 hzz0)))))
  clear iv0 bc0 hsrc0 hcur0 hsz0 hown0 hgrow0 bm0 hzz0 bbm0
  go_wp2_with (refine wpList_copy_own rfl (.tmp 42) (.tmp 43) 22 22 rfl 5 Try.underlying22 (by kernel_rfl) w1.heap.size 0 n n ⟨ba, oa, none⟩ n cap rfl rfl cur0 5 HI0.out.2.2.2.1 (cb la) (by rw [cb_length, hla]; simp) HI0.out.2.2.1 (by rw [cb_length, hla, HI0.out.2.2.2.2.1]; omega) (cb_one _) ?_; refine Hid.out ?_)
  refine Lib.hid ?_
  obtain ⟨v0, hv0⟩ : ∃ v, v = m0.setRow w1.heap.size (cb la ++ cur0.toList.drop (cb la).length).toArray := ⟨_, rfl⟩
  rw [← hv0]
  have iv0 := HI0.out.1
  have bc0 := HI0.out.2.1
  have hzz0 := HI0.out.2.2.2.2.2
  rw [← hv0] at iv0 bc0 hzz0
  clear hv0 HI0
  have bz0 : Below w1.heap.size w1 v0 := bc0
  go_wp2_with (at_make; refine wpList_make_full _ rfl _ _ 22 rfl v0.heap.size 5 i5 (.int .u8 0) 1 Try.underlying22 hi5 hy0 hy1 .i64 .i64 _ _ m rfl rfl rfl rfl (by rw [hy2]; omega) (by unfold maxLen; omega) (Nat.le_refl _) ?_)
  intro m1 hown1 hgrow1
  have bm1 : Below v0.heap.size v0 m1 := (Below.refl _ _).grown hgrow1 (Nat.le_refl _) (fun k hk => by cases hk)
  obtain ⟨cur1, hcur1, hsz1⟩ := made_block hown1
  have bbm1 : Below w1.heap.size w1 m1 := bz0.trans (bm1.mono bz0.size)
  have hsrc1 := cb_src lb ⟨bb, ob, none⟩ w1 m1 bbm1 HH.out.2.1
  have iv1 := HH.out.2.2.2.1 _ _ (copied lb hlb hcur1 hsz1)
  have bc1 : Below v0.heap.size v0 (m1.setRow v0.heap.size (cb lb ++ cur1.toList.drop (cb lb).length).toArray) := below_setRow bm1 (Nat.le_refl _) _
  have hzz1 : v0.heap.size < (m1.setRow v0.heap.size (cb lb ++ cur1.toList.drop (cb lb).length).toArray).heap.size := World.block_lt_of_cell? _ _ iv1.1
  have HI1 := Lib.hid (And.intro iv1 (And.intro bc1 (And.intro hsrc1 (And.intro hcur1 (And.intro hsz1 hzz1)))))
  clear iv1 bc1 hsrc1 hcur1 hsz1 hown1 hgrow1 bm1 hzz1 bbm1
  go_wp2_with (refine wpList_copy_own rfl (.tmp 51) (.tmp 52) 22 22 rfl 5 Try.underlying22 (by kernel_rfl) v0.heap.size 0 m m ⟨bb, ob, none⟩ m cap2 rfl rfl cur1 5 HI1.out.2.2.2.1 (cb lb) (by rw [cb_length, hlb]; simp) HI1.out.2.2.1 (by rw [cb_length, hlb, HI1.out.2.2.2.2.1]; omega) (cb_one _) ?_; refine Hid.out ?_)
  refine Lib.hid ?_
  obtain ⟨v1, hv1⟩ : ∃ v, v = m1.setRow v0.heap.size (cb lb ++ cur1.toList.drop (cb lb).length).toArray := ⟨_, rfl⟩
  rw [← hv1]
  have iv1 := HI1.out.1
  have bc1 := HI1.out.2.1
  have hzz1 := HI1.out.2.2.2.2.2
  rw [← hv1] at iv1 bc1 hzz1
  clear hv1 HI1
  have iva := iv0.on bc1 hzz0
  have bz1 : Below w1.heap.size w1 v1 := bz0.trans (bc1.mono bz0.size)
  have za : w1.heap.size < v1.heap.size := by have := bc1.size; omega
  have HA := Lib.hid (And.intro iva (And.intro iv1 bz1))
  clear iv0 bc0 hzz0 bz0 bz iva bc1 bz1
  clear iv1
  go_wp2_with fail
  refine (zzindex w1.heap.size 0 n n a0 a1 a2 a3 _ h4 (by omega) HA.out.1 HH.out.2.2.2.2.1).mono ?_
  rintro e w2 ⟨rfl, q2, rfl⟩
  rw [← HH.out.2.2.2.2.2.2.1]
  go_wp2_with fail
  refine (zzindex v0.heap.size 0 m m b0 b1 b2 b3 _ h4m (by omega) (HA.out.2.1.drewN _) HH.out.2.2.2.2.2.1).mono ?_
  rintro e w3 ⟨rfl, q3, rfl⟩
  rw [← HH.out.2.2.2.2.2.2.2.1]
  go_wp2_with fail
  refine (zzindex w1.heap.size 0 4 n a0 a1 a2 a3 _ (by omega) (by omega) (HA.out.1.drewN _) HH.out.2.2.2.2.1).mono ?_
  rintro e w4 ⟨rfl, q4, hq4⟩
  rw [← HH.out.2.2.2.2.2.2.1]
  have b4 : Below v1.heap.size v1 w4 := by rw [hq4]; exact below_drewN (below_drewN (Below.refl _ _) _) _
  have cA := HA.out.1.on b4 za
  have cB := HA.out.2.1.on b4 hzz1
  have bb4 : Below w1.heap.size w1 w4 := HA.out.2.2.trans (b4.mono HA.out.2.2.size)
  clear hq4 b4
  have za4 : w1.heap.size < w4.heap.size := World.block_lt_of_cell? _ _ cA.1
  have zb4 : v0.heap.size < w4.heap.size := World.block_lt_of_cell? _ _ cB.1
  clear za hzz1
  have HC := Lib.hid (And.intro cA (And.intro cB bb4))
  clear cA cB bb4
  have fx0 : (a0 != b0) = true := by rw [bne_iff_ne]; omega
  have fx1 : (a0 == b0) = false := by rw [beq_eq_false_iff_ne]; omega
  have fx2 : IB < IA := by rw [HH.out.2.2.2.2.2.2.1, HH.out.2.2.2.2.2.2.2.1]; unfold idx; omega
  have fx3 : (IA == IB) = false := by rw [beq_eq_false_iff_ne, HH.out.2.2.2.2.2.2.1, HH.out.2.2.2.2.2.2.2.1]; unfold idx; omega
  have hdd : ¬ a0 < b0 := by omega
  clear hd
  have ca0 := HC.out.1.1; have ca1 := HC.out.1.2.1; have ca2 := HC.out.1.2.2.1; have ca3 := HC.out.1.2.2.2
  have cb0 := HC.out.2.1.1; have cb1 := HC.out.2.1.2.1; have cb2 := HC.out.2.1.2.2.1; have cb3 := HC.out.2.1.2.2.2
  clear ca0 ca1 ca2 ca3 cb0 cb1 cb2 cb3
  have nn : ∀ j : Int, j < 4 → j < (n : Int) := fun j h => by omega
  have n0 : (0 : Int) < (n : Int) := by omega
  have n1 : (1 : Int) < (n : Int) := by omega
  have n2 : (2 : Int) < (n : Int) := by omega
  have n3 : (3 : Int) < (n : Int) := by omega
  have k0 : (0 : Int) < (m : Int) := by omega
  have k1 : (1 : Int) < (m : Int) := by omega
  have k2 : (2 : Int) < (m : Int) := by omega
  have k3 : (3 : Int) < (m : Int) := by omega
  clear nn
  go_wp2
  go_loopw [9, 10] (fun lex i wr => ∃ k : Nat, k ≤ 0 ∧ i = .int .i64 k ∧ lex = .int .i64 0 ∧ Below w4.heap.size w4 wr) (fun _ i _ => 5 - (RowKit.intOf i).toNat)
  case atStart => exact ⟨0, Nat.zero_le _, rfl, rfl, Below.refl _ _⟩
  case round =>
    obtain ⟨k, hk, rfl, rfl, hb⟩ := hrel
    have cA := HC.out.1.on hb za4
    have cB := HC.out.2.1.on hb zb4
    obtain ⟨x0, x1, x2, x3⟩ := cA
    obtain ⟨y0, y1, y2, y3⟩ := cB
    have bbr : Below w1.heap.size w1 wr := HC.out.2.2.trans (hb.mono HC.out.2.2.size)
    have HBR := Lib.hid (And.intro bbr hb)
    clear bbr hb
    rcases (show k = 0 from by omega) with rfl
    · go_wp2
      go_quiet (fail)
      go_wp2
      go_quiet (fail)
      go_wp2
      go_quiet (fail)
      go_wp2
      go_ret
      first | exact ⟨rfl, below_drewN HBR.out.1 _⟩ | exact ⟨rfl, below_drewN (below_drewN HBR.out.1 _) _⟩ | exact ⟨rfl, below_drewN (below_drewN (below_drewN HBR.out.1 _) _) _⟩

set_option maxRecDepth 100000 in
set_option maxHeartbeats 12800000 in
theorem ord_1l (ba oa bb ob n cap m cap2 : Nat) (la lb : List Int) (a0 a1 a2 a3 b0 b1 b2 b3 : Int) (w : World) (hn : n ≤ 1048576) (h4 : 4 ≤ n) (hm : m ≤ 1048576) (h4m : 4 ≤ m) (hsum : n + m ≤ 1048576)
    (hla : la.length = n) (hlb : lb.length = m) (hca : ∀ j (h : j < la.length), w.cell? ((⟨ba, oa, none⟩ : Addr).add j) = some (.int .u8 la[j])) (hcb : ∀ j (h : j < lb.length), w.cell? ((⟨bb, ob, none⟩ : Addr).add j) = some (.int .u8 lb[j]))
    (e0 : la[0]? = some a0) (e1 : la[1]? = some a1) (e2 : la[2]? = some a2) (e3 : la[3]? = some a3) (f0 : lb[0]? = some b0) (f1 : lb[1]? = some b1) (f2 : lb[2]? = some b2) (f3 : lb[3]? = some b3)
    (haa : At4 w ba oa a0 a1 a2 a3) (hbb : At4 w bb ob b0 b1 b2 b3) (ca : Code4 a0 a1 a2 a3) (cbd : Code4 b0 b1 b2 b3) (h0 : a0 = b0) (hd : a1 < b1) :
    Calls Try.prog 4 #[.slice (some ⟨ba, oa, none⟩) n cap, .slice (some ⟨bb, ob, none⟩) m cap2] w fun e w' => e = .returned (.bool true) ∧ Below w.heap.size w w' := by
  have hn22 := fun (w : World) a n c => run_neq_slice_nil_any (P := Try.prog) w 22 5 a n c 0 0 Try.underlying22
  obtain ⟨i5, hi5, hy0, hy1, hy2⟩ := info_parts infoByte
  have ga : ∀ (W : World) (g : Nat), (∀ k (h : k < la.length), W.cell? ⟨g, k, none⟩ = some (.int .u8 la[k])) → At4 W g 0 a0 a1 a2 a3 := fun W g h => at4_of_list h4 hla e0 e1 e2 e3 h
  have gb : ∀ (W : World) (g : Nat), (∀ k (h : k < lb.length), W.cell? ⟨g, k, none⟩ = some (.int .u8 lb[k])) → At4 W g 0 b0 b1 b2 b3 := fun W g h => at4_of_list h4m hlb f0 f1 f2 f3 h
  have hia := idx_bounds a0 a1 a2 a3 ca
  have hib := idx_bounds b0 b1 b2 b3 cbd
  obtain ⟨IA, hIA⟩ : ∃ I, I = idx a0 a1 a2 a3 := ⟨_, rfl⟩
  obtain ⟨IB, hIB⟩ : ∃ I, I = idx b0 b1 b2 b3 := ⟨_, rfl⟩
  rw [← hIA] at hia
  rw [← hIB] at hib
  obtain ⟨hA0, hA1⟩ := hia
  obtain ⟨hB0, hB1⟩ := hib
  have HH := Lib.hid (And.intro hca (And.intro hcb (And.intro ga (And.intro gb (And.intro ca (And.intro cbd (And.intro hIA (And.intro hIB (And.intro haa hbb)))))))))
  obtain ⟨⟨p1, p2⟩, ⟨p3, p4⟩, ⟨p5, p6⟩, ⟨p7, p8⟩⟩ := ca
  obtain ⟨⟨r1, r2⟩, ⟨r3, r4⟩, ⟨r5, r6⟩, ⟨r7, r8⟩⟩ := cbd
  clear hca hcb ga gb e0 e1 e2 e3 f0 f1 f2 f3 hIA hIB haa hbb
  go_enter Try.func4, Try.ntmps4
  go_wp2_with fail
  refine (zz_small9 _ _ n cap m cap2 w hsum).mono ?_
  rintro e w0 ⟨rfl, rfl⟩
  go_wp2_with fail
  refine (valid_yes ba oa n cap a0 a1 a2 a3 w0 h4 (by omega) HH.out.2.2.2.2.2.2.2.2.1 HH.out.2.2.2.2.1).mono ?_
  rintro e w1' ⟨rfl, rfl⟩
  go_wp2_with fail
  refine (valid_yes bb ob m cap2 b0 b1 b2 b3 w1' h4m (by omega) HH.out.2.2.2.2.2.2.2.2.2 HH.out.2.2.2.2.2.1).mono ?_
  rintro e w1 ⟨rfl, rfl⟩
  have bz : Below w1.heap.size w1 w1 := Below.refl _ _
  go_wp2_with (at_make; refine wpList_make_full _ rfl _ _ 22 rfl w1.heap.size 5 i5 (.int .u8 0) 1 Try.underlying22 hi5 hy0 hy1 .i64 .i64 _ _ n rfl rfl rfl rfl (by rw [hy2]; omega) (by unfold maxLen; omega) (Nat.le_refl _) ?_)
  intro m0 hown0 hgrow0
  have bm0 : Below w1.heap.size w1 m0 := (Below.refl _ _).grown hgrow0 (Nat.le_refl _) (fun k hk => by cases hk)
  obtain ⟨cur0, hcur0, hsz0⟩ := made_block hown0
  have bbm0 : Below w1.heap.size w1 m0 := bz.trans (bm0.mono bz.size)
  have hsrc0 := cb_src la ⟨ba, oa, none⟩ w1 m0 bbm0 HH.out.1
  have iv0 := HH.out.2.2.1 _ _ (copied la hla hcur0 hsz0)
  have bc0 : Below w1.heap.size w1 (m0.setRow w1.heap.size (cb la ++ cur0.toList.drop (cb la).length).toArray) := below_setRow bm0 (Nat.le_refl _) _
  have hzz0 : w1.heap.size < (m0.setRow w1.heap.size (cb la ++ cur0.toList.drop (cb la).length).toArray).heap.size := World.block_lt_of_cell? _ _ iv0.1
  have HI0 := Lib.hid (And.intro iv0 (And.intro bc0 (And.intro hsrc0 (And.intro hcur0 (And.intro hsz0 hzz0)))))
  clear iv0 bc0 hsrc0 hcur0 hsz0 hown0 hgrow0 bm0 hzz0 bbm0
  go_wp2_with (refine wpList_copy_own rfl (.tmp 42) (.tmp 43) 22 22 rfl 5 Try.underlying22 (by kernel_rfl) w1.heap.size 0 n n ⟨ba, oa, none⟩ n cap rfl rfl cur0 5 HI0.out.2.2.2.1 (cb la) (by rw [cb_length, hla]; simp) HI0.out.2.2.1 (by rw [cb_length, hla, HI0.out.2.2.2.2.1]; omega) (cb_one _) ?_; refine Hid.out ?_)
  refine Lib.hid ?_
  obtain ⟨v0, hv0⟩ : ∃ v, v = m0.setRow w1.heap.size (cb la ++ cur0.toList.drop (cb la).length).toArray := ⟨_, rfl⟩
  rw [← hv0]
  have iv0 := HI0.out.1
  have bc0 := HI0.out.2.1
  have hzz0 := HI0.out.2.2.2.2.2
  rw [← hv0] at iv0 bc0 hzz0
  clear hv0 HI0
  have bz0 : Below w1.heap.size w1 v0 := bc0
  go_wp2_with (at_make; refine wpList_make_full _ rfl _ _ 22 rfl v0.heap.size 5 i5 (.int .u8 0) 1 Try.underlying22 hi5 hy0 hy1 .i64 .i64 _ _ m rfl rfl rfl rfl (by rw [hy2]; omega) (by unfold maxLen; omega) (Nat.le_refl _) ?_)
  intro m1 hown1 hgrow1
  have bm1 : Below v0.heap.size v0 m1 := (Below.refl _ _).grown hgrow1 (Nat.le_refl _) (fun k hk => by cases hk)
  obtain ⟨cur1, hcur1, hsz1⟩ := made_block hown1
  have bbm1 : Below w1.heap.size w1 m1 := bz0.trans (bm1.mono bz0.size)
  have hsrc1 := cb_src lb ⟨bb, ob, none⟩ w1 m1 bbm1 HH.out.2.1
  have iv1 := HH.out.2.2.2.1 _ _ (copied lb hlb hcur1 hsz1)
  have bc1 : Below v0.heap.size v0 (m1.setRow v0.heap.size (cb lb ++ cur1.toList.drop (cb lb).length).toArray) := below_setRow bm1 (Nat.le_refl _) _
  have hzz1 : v0.heap.size < (m1.setRow v0.heap.size (cb lb ++ cur1.toList.drop (cb lb).length).toArray).heap.size := World.block_lt_of_cell? _ _ iv1.1
  have HI1 := Lib.hid (And.intro iv1 (And.intro bc1 (And.intro hsrc1 (And.intro hcur1 (And.intro hsz1 hzz1)))))
  clear iv1 bc1 hsrc1 hcur1 hsz1 hown1 hgrow1 bm1 hzz1 bbm1
  go_wp2_with (refine wpList_copy_own rfl (.tmp 51) (.tmp 52) 22 22 rfl 5 Try.underlying22 (by kernel_rfl) v0.heap.size 0 m m ⟨bb, ob, none⟩ m cap2 rfl rfl cur1 5 HI1.out.2.2.2.1 (cb lb) (by rw [cb_length, hlb]; simp) HI1.out.2.2.1 (by rw [cb_length, hlb, HI1.out.2.2.2.2.1]; omega) (cb_one _) ?_; refine Hid.out ?_)
  refine Lib.hid ?_
  obtain ⟨v1, hv1⟩ : ∃ v, v = m1.setRow v0.heap.size (cb lb ++ cur1.toList.drop (cb lb).length).toArray := ⟨_, rfl⟩
  rw [← hv1]
  have iv1 := HI1.out.1
  have bc1 := HI1.out.2.1
  have hzz1 := HI1.out.2.2.2.2.2
  rw [← hv1] at iv1 bc1 hzz1
  clear hv1 HI1
  have iva := iv0.on bc1 hzz0
  have bz1 : Below w1.heap.size w1 v1 := bz0.trans (bc1.mono bz0.size)
  have za : w1.heap.size < v1.heap.size := by have := bc1.size; omega
  have HA := Lib.hid (And.intro iva (And.intro iv1 bz1))
  clear iv0 bc0 hzz0 bz0 bz iva bc1 bz1
  clear iv1
  go_wp2_with fail
  refine (zzindex w1.heap.size 0 n n a0 a1 a2 a3 _ h4 (by omega) HA.out.1 HH.out.2.2.2.2.1).mono ?_
  rintro e w2 ⟨rfl, q2, rfl⟩
  rw [← HH.out.2.2.2.2.2.2.1]
  go_wp2_with fail
  refine (zzindex v0.heap.size 0 m m b0 b1 b2 b3 _ h4m (by omega) (HA.out.2.1.drewN _) HH.out.2.2.2.2.2.1).mono ?_
  rintro e w3 ⟨rfl, q3, rfl⟩
  rw [← HH.out.2.2.2.2.2.2.2.1]
  go_wp2_with fail
  refine (zzindex w1.heap.size 0 4 n a0 a1 a2 a3 _ (by omega) (by omega) (HA.out.1.drewN _) HH.out.2.2.2.2.1).mono ?_
  rintro e w4 ⟨rfl, q4, hq4⟩
  rw [← HH.out.2.2.2.2.2.2.1]
  have b4 : Below v1.heap.size v1 w4 := by rw [hq4]; exact below_drewN (below_drewN (Below.refl _ _) _) _
  have cA := HA.out.1.on b4 za
  have cB := HA.out.2.1.on b4 hzz1
  have bb4 : Below w1.heap.size w1 w4 := HA.out.2.2.trans (b4.mono HA.out.2.2.size)
  clear hq4 b4
  have za4 : w1.heap.size < w4.heap.size := World.block_lt_of_cell? _ _ cA.1
  have zb4 : v0.heap.size < w4.heap.size := World.block_lt_of_cell? _ _ cB.1
  clear za hzz1
  have HC := Lib.hid (And.intro cA (And.intro cB bb4))
  clear cA cB bb4
  have fx0 : (a0 != b0) = false := by rw [bne_eq_false_iff_eq]; exact h0
  have fx1 : (a0 == b0) = true := by rw [beq_iff_eq]; exact h0
  have fx2 : (a1 != b1) = true := by rw [bne_iff_ne]; omega
  have fx3 : (a1 == b1) = false := by rw [beq_eq_false_iff_ne]; omega
  have fx4 : IA < IB := by rw [HH.out.2.2.2.2.2.2.1, HH.out.2.2.2.2.2.2.2.1]; unfold idx; omega
  have fx5 : (IA == IB) = false := by rw [beq_eq_false_iff_ne, HH.out.2.2.2.2.2.2.1, HH.out.2.2.2.2.2.2.2.1]; unfold idx; omega
  have hdd : a1 < b1 := by omega
  clear h0 hd
  have ca0 := HC.out.1.1; have ca1 := HC.out.1.2.1; have ca2 := HC.out.1.2.2.1; have ca3 := HC.out.1.2.2.2
  have cb0 := HC.out.2.1.1; have cb1 := HC.out.2.1.2.1; have cb2 := HC.out.2.1.2.2.1; have cb3 := HC.out.2.1.2.2.2
  clear ca0 ca1 ca2 ca3 cb0 cb1 cb2 cb3
  have nn : ∀ j : Int, j < 4 → j < (n : Int) := fun j h => by omega
  have n0 : (0 : Int) < (n : Int) := by omega
  have n1 : (1 : Int) < (n : Int) := by omega
  have n2 : (2 : Int) < (n : Int) := by omega
  have n3 : (3 : Int) < (n : Int) := by omega
  have k0 : (0 : Int) < (m : Int) := by omega
  have k1 : (1 : Int) < (m : Int) := by omega
  have k2 : (2 : Int) < (m : Int) := by omega
  have k3 : (3 : Int) < (m : Int) := by omega
  clear nn
  go_wp2
  go_loopw [9, 10] (fun lex i wr => ∃ k : Nat, k ≤ 1 ∧ i = .int .i64 k ∧ lex = .int .i64 0 ∧ Below w4.heap.size w4 wr) (fun _ i _ => 5 - (RowKit.intOf i).toNat)
  case atStart => exact ⟨0, Nat.zero_le _, rfl, rfl, Below.refl _ _⟩
  case round =>
    obtain ⟨k, hk, rfl, rfl, hb⟩ := hrel
    have cA := HC.out.1.on hb za4
    have cB := HC.out.2.1.on hb zb4
    obtain ⟨x0, x1, x2, x3⟩ := cA
    obtain ⟨y0, y1, y2, y3⟩ := cB
    have bbr : Below w1.heap.size w1 wr := HC.out.2.2.trans (hb.mono HC.out.2.2.size)
    have HBR := Lib.hid (And.intro bbr hb)
    clear bbr hb
    rcases (show k = 0 ∨ k = 1 from by omega) with rfl | rfl
    · go_wp2
      go_quiet (fail)
      go_wp2
      go_roundw
      case rel => exact ⟨1, by omega, by go_num, rfl, below_drewN HBR.out.2 _⟩
      case measure => simp [RowKit.intOf]
    · go_wp2
      go_quiet (fail)
      go_wp2
      go_quiet (fail)
      go_wp2
      go_quiet (fail)
      go_wp2
      go_ret
      first | exact ⟨rfl, below_drewN HBR.out.1 _⟩ | exact ⟨rfl, below_drewN (below_drewN HBR.out.1 _) _⟩ | exact ⟨rfl, below_drewN (below_drewN (below_drewN HBR.out.1 _) _) _⟩

set_option maxRecDepth 100000 in
set_option maxHeartbeats 12800000 in
theorem ord_1g (ba oa bb ob n cap m cap2 : Nat) (la lb : List Int) (a0 a1 a2 a3 b0 b1 b2 b3 : Int) (w : World) (hn : n ≤ 1048576) (h4 : 4 ≤ n) (hm : m ≤ 1048576) (h4m : 4 ≤ m) (hsum : n + m ≤ 1048576)
    (hla : la.length = n) (hlb : lb.length = m) (hca : ∀ j (h : j < la.length), w.cell? ((⟨ba, oa, none⟩ : Addr).add j) = some (.int .u8 la[j])) (hcb : ∀ j (h : j < lb.length), w.cell? ((⟨bb, ob, none⟩ : Addr).add j) = some (.int .u8 lb[j]))
    (e0 : la[0]? = some a0) (e1 : la[1]? = some a1) (e2 : la[2]? = some a2) (e3 : la[3]? = some a3) (f0 : lb[0]? = some b0) (f1 : lb[1]? = some b1) (f2 : lb[2]? = some b2) (f3 : lb[3]? = some b3)
    (haa : At4 w ba oa a0 a1 a2 a3) (hbb : At4 w bb ob b0 b1 b2 b3) (ca : Code4 a0 a1 a2 a3) (cbd : Code4 b0 b1 b2 b3) (h0 : a0 = b0) (hd : a1 > b1) :
    Calls Try.prog 4 #[.slice (some ⟨ba, oa, none⟩) n cap, .slice (some ⟨bb, ob, none⟩) m cap2] w fun e w' => e = .returned (.bool true) ∧ Below w.heap.size w w' := by
  have hn22 := fun (w : World) a n c => run_neq_slice_nil_any (P := Try.prog) w 22 5 a n c 0 0 Try.underlying22
  obtain ⟨i5, hi5, hy0, hy1, hy2⟩ := info_parts infoByte
  have ga : ∀ (W : World) (g : Nat), (∀ k (h : k < la.length), W.cell? ⟨g, k, none⟩ = some (.int .u8 la[k])) → At4 W g 0 a0 a1 a2 a3 := fun W g h => at4_of_list h4 hla e0 e1 e2 e3 h
  have gb : ∀ (W : World) (g : Nat), (∀ k (h : k < lb.length), W.cell? ⟨g, k, none⟩ = some (.int .u8 lb[k])) → At4 W g 0 b0 b1 b2 b3 := fun W g h => at4_of_list h4m hlb f0 f1 f2 f3 h
  have hia := idx_bounds a0 a1 a2 a3 ca
  have hib := idx_bounds b0 b1 b2 b3 cbd
  obtain ⟨IA, hIA⟩ : ∃ I, I = idx a0 a1 a2 a3 := ⟨_, rfl⟩
  obtain ⟨IB, hIB⟩ : ∃ I, I = idx b0 b1 b2 b3 := ⟨_, rfl⟩
  rw [← hIA] at hia
  rw [← hIB] at hib
  obtain ⟨hA0, hA1⟩ := hia
  obtain ⟨hB0, hB1⟩ := hib
  have HH := Lib.hid (And.intro hca (And.intro hcb (And.intro ga (And.intro gb (And.intro ca (And.intro cbd (And.intro hIA (And.intro hIB (And.intro haa hbb)))))))))
  obtain ⟨⟨p1, p2⟩, ⟨p3, p4⟩, ⟨p5, p6⟩, ⟨p7, p8⟩⟩ := ca
  obtain ⟨⟨r1, r2⟩, ⟨r3, r4⟩, ⟨r5, r6⟩, ⟨r7, r8⟩⟩ := cbd
  clear hca hcb ga gb e0 e1 e2 e3 f0 f1 f2 f3 hIA hIB haa hbb
  go_enter Try.func4, Try.ntmps4
  go_wp2_with fail
  refine (zz_small9 _ _ n cap m cap2 w hsum).mono ?_
  rintro e w0 ⟨rfl, rfl⟩
  go_wp2_with fail
  refine (valid_yes ba oa n cap a0 a1 a2 a3 w0 h4 (by omega) HH.out.2.2.2.2.2.2.2.2.1 HH.out.2.2.2.2.1).mono ?_
  rintro e w1' ⟨rfl, rfl⟩
  go_wp2_with fail
  refine (valid_yes bb ob m cap2 b0 b1 b2 b3 w1' h4m (by omega) HH.out.2.2.2.2.2.2.2.2.2 HH.out.2.2.2.2.2.1).mono ?_
  rintro e w1 ⟨rfl, rfl⟩
  have bz : Below w1.heap.size w1 w1 := Below.refl _ _
  go_wp2_with (at_make; refine wpList_make_full _ rfl _ _ 22 rfl w1.heap.size 5 i5 (.int .u8 0) 1 Try.underlying22 hi5 hy0 hy1 .i64 .i64 _ _ n rfl rfl rfl rfl (by rw [hy2]; omega) (by unfold maxLen; omega) (Nat.le_refl _) ?_)
  intro m0 hown0 hgrow0
  have bm0 : Below w1.heap.size w1 m0 := (Below.refl _ _).grown hgrow0 (Nat.le_refl _) (fun k hk => by cases hk)
  obtain ⟨cur0, hcur0, hsz0⟩ := made_block hown0
  have bbm0 : Below w1.heap.size w1 m0 := bz.trans (bm0.mono bz.size)
  have hsrc0 := cb_src la ⟨ba, oa, none⟩ w1 m0 bbm0 HH.out.1
  have iv0 := HH.out.2.2.1 _ _ (copied la hla hcur0 hsz0)
  have bc0 : Below w1.heap.size w1 (m0.setRow w1.heap.size (cb la ++ cur0.toList.drop (cb la).length).toArray) := below_setRow bm0 (Nat.le_refl _) _
  have hzz0 : w1.heap.size < (m0.setRow w1.heap.size (cb la ++ cur0.toList.drop (cb la).length).toArray).heap.size := World.block_lt_of_cell? _ _ iv0.1
  have HI0 := Lib.hid (And.intro iv0 (And.intro bc0 (And.intro hsrc0 (And.intro hcur0 (And.intro hsz0 hzz0)))))
  clear iv0 bc0 hsrc0 hcur0 hsz0 hown0 hgrow0 bm0 hzz0 bbm0
  go_wp2_with (refine wpList_copy_own rfl (.tmp 42) (.tmp 43) 22 22 rfl 5 Try.underlying22 (by kernel_rfl) w1.heap.size 0 n n ⟨ba, oa, none⟩ n cap rfl rfl cur0 5 HI0.out.2.2.2.1 (cb la) (by rw [cb_length, hla]; simp) HI0.out.2.2.1 (by rw [cb_length, hla, HI0.out.2.2.2.2.1]; omega) (cb_one _) ?_; refine Hid.out ?_)
  refine Lib.hid ?_
  obtain ⟨v0, hv0⟩ : ∃ v, v = m0.setRow w1.heap.size (cb la ++ cur0.toList.drop (cb la).length).toArray := ⟨_, rfl⟩
  rw [← hv0]
  have iv0 := HI0.out.1
  have bc0 := HI0.out.2.1
  have hzz0 := HI0.out.2.2.2.2.2
  rw [← hv0] at iv0 bc0 hzz0
  clear hv0 HI0
  have bz0 : Below w1.heap.size w1 v0 := bc0
  go_wp2_with (at_make; refine wpList_make_full _ rfl _ _ 22 rfl v0.heap.size 5 i5 (.int .u8 0) 1 Try.underlying22 hi5 hy0 hy1 .i64 .i64 _ _ m rfl rfl rfl rfl (by rw [hy2]; omega) (by unfold maxLen; omega) (Nat.le_refl _) ?_)
  intro m1 hown1 hgrow1
  have bm1 : Below v0.heap.size v0 m1 := (Below.refl _ _).grown hgrow1 (Nat.le_refl _) (fun k hk => by cases hk)
  obtain ⟨cur1, hcur1, hsz1⟩ := made_block hown1
  have bbm1 : Below w1.heap.size w1 m1 := bz0.trans (bm1.mono bz0.size)
  have hsrc1 := cb_src lb ⟨bb, ob, none⟩ w1 m1 bbm1 HH.out.2.1
  have iv1 := HH.out.2.2.2.1 _ _ (copied lb hlb hcur1 hsz1)
  have bc1 : Below v0.heap.size v0 (m1.setRow v0.heap.size (cb lb ++ cur1.toList.drop (cb lb).length).toArray) := below_setRow bm1 (Nat.le_refl _) _
  have hzz1 : v0.heap.size < (m1.setRow v0.heap.size (cb lb ++ cur1.toList.drop (cb lb).length).toArray).heap.size := World.block_lt_of_cell? _ _ iv1.1
  have HI1 := Lib.hid (And.intro iv1 (And.intro bc1 (And.intro hsrc1 (And.intro hcur1 (And.intro hsz1 hzz1)))))
  clear iv1 bc1 hsrc1 hcur1 hsz1 hown1 hgrow1 bm1 hzz1 bbm1
  go_wp2_with (refine wpList_copy_own rfl (.tmp 51) (.tmp 52) 22 22 rfl 5 Try.underlying22 (by kernel_rfl) v0.heap.size 0 m m ⟨bb, ob, none⟩ m cap2 rfl rfl cur1 5 HI1.out.2.2.2.1 (cb lb) (by rw [cb_length, hlb]; simp) HI1.out.2.2.1 (by rw [cb_length, hlb, HI1.out.2.2.2.2.1]; omega) (cb_one _) ?_; refine Hid.out ?_)
  refine Lib.hid ?_
  obtain ⟨v1, hv1⟩ : ∃ v, v = m1.setRow v0.heap.size (cb lb ++ cur1.toList.drop (cb lb).length).toArray := ⟨_, rfl⟩
  rw [← hv1]
  have iv1 := HI1.out.1
  have bc1 := HI1.out.2.1
  have hzz1 := HI1.out.2.2.2.2.2
  rw [← hv1] at iv1 bc1 hzz1
  clear hv1 HI1
  have iva := iv0.on bc1 hzz0
  have bz1 : Below w1.heap.size w1 v1 := bz0.trans (bc1.mono bz0.size)
  have za : w1.heap.size < v1.heap.size := by have := bc1.size; omega
  have HA := Lib.hid (And.intro iva (And.intro iv1 bz1))
  clear iv0 bc0 hzz0 bz0 bz iva bc1 bz1
  clear iv1
  go_wp2_with fail
  refine (zzindex w1.heap.size 0 n n a0 a1 a2 a3 _ h4 (by omega) HA.out.1 HH.out.2.2.2.2.1).mono ?_
  rintro e w2 ⟨rfl, q2, rfl⟩
  rw [← HH.out.2.2.2.2.2.2.1]
  go_wp2_with fail
  refine (zzindex v0.heap.size 0 m m b0 b1 b2 b3 _ h4m (by omega) (HA.out.2.1.drewN _) HH.out.2.2.2.2.2.1).mono ?_
  rintro e w3 ⟨rfl, q3, rfl⟩
  rw [← HH.out.2.2.2.2.2.2.2.1]
  go_wp2_with fail
  refine (zzindex w1.heap.size 0 4 n a0 a1 a2 a3 _ (by omega) (by omega) (HA.out.1.drewN _) HH.out.2.2.2.2.1).mono ?_
  rintro e w4 ⟨rfl, q4, hq4⟩
  rw [← HH.out.2.2.2.2.2.2.1]
  have b4 : Below v1.heap.size v1 w4 := by rw [hq4]; exact below_drewN (below_drewN (Below.refl _ _) _) _
  have cA := HA.out.1.on b4 za
  have cB := HA.out.2.1.on b4 hzz1
  have bb4 : Below w1.heap.size w1 w4 := HA.out.2.2.trans (b4.mono HA.out.2.2.size)
  clear hq4 b4
  have za4 : w1.heap.size < w4.heap.size := World.block_lt_of_cell? _ _ cA.1
  have zb4 : v0.heap.size < w4.heap.size := World.block_lt_of_cell? _ _ cB.1
  clear za hzz1
  have HC := Lib.hid (And.intro cA (And.intro cB bb4))
  clear cA cB bb4
  have fx0 : (a0 != b0) = false := by rw [bne_eq_false_iff_eq]; exact h0
  have fx1 : (a0 == b0) = true := by rw [beq_iff_eq]; exact h0
  have fx2 : (a1 != b1) = true := by rw [bne_iff_ne]; omega
  have fx3 : (a1 == b1) = false := by rw [beq_eq_false_iff_ne]; omega
  have fx4 : IB < IA := by rw [HH.out.2.2.2.2.2.2.1, HH.out.2.2.2.2.2.2.2.1]; unfold idx; omega
  have fx5 : (IA == IB) = false := by rw [beq_eq_false_iff_ne, HH.out.2.2.2.2.2.2.1, HH.out.2.2.2.2.2.2.2.1]; unfold idx; omega
  have hdd : ¬ a1 < b1 := by omega
  clear h0 hd
  have ca0 := HC.out.1.1; have ca1 := HC.out.1.2.1; have ca2 := HC.out.1.2.2.1; have ca3 := HC.out.1.2.2.2
  have cb0 := HC.out.2.1.1; have cb1 := HC.out.2.1.2.1; have cb2 := HC.out.2.1.2.2.1; have cb3 := HC.out.2.1.2.2.2
  clear ca0 ca1 ca2 ca3 cb0 cb1 cb2 cb3
  have nn : ∀ j : Int, j < 4 → j < (n : Int) := fun j h => by omega
  have n0 : (0 : Int) < (n : Int) := by omega
  have n1 : (1 : Int) < (n : Int) := by omega
  have n2 : (2 : Int) < (n : Int) := by omega
  have n3 : (3 : Int) < (n : Int) := by omega
  have k0 : (0 : Int) < (m : Int) := by omega
  have k1 : (1 : Int) < (m : Int) := by omega
  have k2 : (2 : Int) < (m : Int) := by omega
  have k3 : (3 : Int) < (m : Int) := by omega
  clear nn
  go_wp2
  go_loopw [9, 10] (fun lex i wr => ∃ k : Nat, k ≤ 1 ∧ i = .int .i64 k ∧ lex = .int .i64 0 ∧ Below w4.heap.size w4 wr) (fun _ i _ => 5 - (RowKit.intOf i).toNat)
  case atStart => exact ⟨0, Nat.zero_le _, rfl, rfl, Below.refl _ _⟩
  case round =>
    obtain ⟨k, hk, rfl, rfl, hb⟩ := hrel
    have cA := HC.out.1.on hb za4
    have cB := HC.out.2.1.on hb zb4
    obtain ⟨x0, x1, x2, x3⟩ := cA
    obtain ⟨y0, y1, y2, y3⟩ := cB
    have bbr : Below w1.heap.size w1 wr := HC.out.2.2.trans (hb.mono HC.out.2.2.size)
    have HBR := Lib.hid (And.intro bbr hb)
    clear bbr hb
    rcases (show k = 0 ∨ k = 1 from by omega) with rfl | rfl
    · go_wp2
      go_quiet (fail)
      go_wp2
      go_roundw
      case rel => exact ⟨1, by omega, by go_num, rfl, below_drewN HBR.out.2 _⟩
      case measure => simp [RowKit.intOf]
    · go_wp2
      go_quiet (fail)
      go_wp2
      go_quiet (fail)
      go_wp2
      go_quiet (fail)
      go_wp2
      go_ret
      first | exact ⟨rfl, below_drewN HBR.out.1 _⟩ | exact ⟨rfl, below_drewN (below_drewN HBR.out.1 _) _⟩ | exact ⟨rfl, below_drewN (below_drewN (below_drewN HBR.out.1 _) _) _⟩

set_option maxRecDepth 100000 in
set_option maxHeartbeats 12800000 in
theorem ord_2l (ba oa bb ob n cap m cap2 : Nat) (la lb : List Int) (a0 a1 a2 a3 b0 b1 b2 b3 : Int) (w : World) (hn : n ≤ 1048576) (h4 : 4 ≤ n) (hm : m ≤ 1048576) (h4m : 4 ≤ m) (hsum : n + m ≤ 1048576)
    (hla : la.length = n) (hlb : lb.length = m) (hca : ∀ j (h : j < la.length), w.cell? ((⟨ba, oa, none⟩ : Addr).add j) = some (.int .u8 la[j])) (hcb : ∀ j (h : j < lb.length), w.cell? ((⟨bb, ob, none⟩ : Addr).add j) = some (.int .u8 lb[j]))
    (e0 : la[0]? = some a0) (e1 : la[1]? = some a1) (e2 : la[2]? = some a2) (e3 : la[3]? = some a3) (f0 : lb[0]? = some b0) (f1 : lb[1]? = some b1) (f2 : lb[2]? = some b2) (f3 : lb[3]? = some b3)
    (haa : At4 w ba oa a0 a1 a2 a3) (hbb : At4 w bb ob b0 b1 b2 b3) (ca : Code4 a0 a1 a2 a3) (cbd : Code4 b0 b1 b2 b3) (h0 : a0 = b0) (h1 : a1 = b1) (hd : a2 < b2) :
    Calls Try.prog 4 #[.slice (some ⟨ba, oa, none⟩) n cap, .slice (some ⟨bb, ob, none⟩) m cap2] w fun e w' => e = .returned (.bool true) ∧ Below w.heap.size w w' := by
  have hn22 := fun (w : World) a n c => run_neq_slice_nil_any (P := Try.prog) w 22 5 a n c 0 0 Try.underlying22
  obtain ⟨i5, hi5, hy0, hy1, hy2⟩ := info_parts infoByte
  have ga : ∀ (W : World) (g : Nat), (∀ k (h : k < la.length), W.cell? ⟨g, k, none⟩ = some (.int .u8 la[k])) → At4 W g 0 a0 a1 a2 a3 := fun W g h => at4_of_list h4 hla e0 e1 e2 e3 h
  have gb : ∀ (W : World) (g : Nat), (∀ k (h : k < lb.length), W.cell? ⟨g, k, none⟩ = some (.int .u8 lb[k])) → At4 W g 0 b0 b1 b2 b3 := fun W g h => at4_of_list h4m hlb f0 f1 f2 f3 h
  have hia := idx_bounds a0 a1 a2 a3 ca
  have hib := idx_bounds b0 b1 b2 b3 cbd
  obtain ⟨IA, hIA⟩ : ∃ I, I = idx a0 a1 a2 a3 := ⟨_, rfl⟩
  obtain ⟨IB, hIB⟩ : ∃ I, I = idx b0 b1 b2 b3 := ⟨_, rfl⟩
  rw [← hIA] at hia
  rw [← hIB] at hib
  obtain ⟨hA0, hA1⟩ := hia
  obtain ⟨hB0, hB1⟩ := hib
  have HH := Lib.hid (And.intro hca (And.intro hcb (And.intro ga (And.intro gb (And.intro ca (And.intro cbd (And.intro hIA (And.intro hIB (And.intro haa hbb)))))))))
  obtain ⟨⟨p1, p2⟩, ⟨p3, p4⟩, ⟨p5, p6⟩, ⟨p7, p8⟩⟩ := ca
  obtain ⟨⟨r1, r2⟩, ⟨r3, r4⟩, ⟨r5, r6⟩, ⟨r7, r8⟩⟩ := cbd
  clear hca hcb ga gb e0 e1 e2 e3 f0 f1 f2 f3 hIA hIB haa hbb
  go_enter Try.func4, Try.ntmps4
  go_wp2_with fail
  refine (zz_small9 _ _ n cap m cap2 w hsum).mono ?_
  rintro e w0 ⟨rfl, rfl⟩
  go_wp2_with fail
  refine (valid_yes ba oa n cap a0 a1 a2 a3 w0 h4 (by omega) HH.out.2.2.2.2.2.2.2.2.1 HH.out.2.2.2.2.1).mono ?_
  rintro e w1' ⟨rfl, rfl⟩
  go_wp2_with fail
  refine (valid_yes bb ob m cap2 b0 b1 b2 b3 w1' h4m (by omega) HH.out.2.2.2.2.2.2.2.2.2 HH.out.2.2.2.2.2.1).mono ?_
  rintro e w1 ⟨rfl, rfl⟩
  have bz : Below w1.heap.size w1 w1 := Below.refl _ _
  go_wp2_with (at_make; refine wpList_make_full _ rfl _ _ 22 rfl w1.heap.size 5 i5 (.int .u8 0) 1 Try.underlying22 hi5 hy0 hy1 .i64 .i64 _ _ n rfl rfl rfl rfl (by rw [hy2]; omega) (by unfold maxLen; omega) (Nat.le_refl _) ?_)
  intro m0 hown0 hgrow0
  have bm0 : Below w1.heap.size w1 m0 := (Below.refl _ _).grown hgrow0 (Nat.le_refl _) (fun k hk => by cases hk)
  obtain ⟨cur0, hcur0, hsz0⟩ := made_block hown0
  have bbm0 : Below w1.heap.size w1 m0 := bz.trans (bm0.mono bz.size)
  have hsrc0 := cb_src la ⟨ba, oa, none⟩ w1 m0 bbm0 HH.out.1
  have iv0 := HH.out.2.2.1 _ _ (copied la hla hcur0 hsz0)
  have bc0 : Below w1.heap.size w1 (m0.setRow w1.heap.size (cb la ++ cur0.toList.drop (cb la).length).toArray) := below_setRow bm0 (Nat.le_refl _) _
  have hzz0 : w1.heap.size < (m0.setRow w1.heap.size (cb la ++ cur0.toList.drop (cb la).length).toArray).heap.size := World.block_lt_of_cell? _ _ iv0.1
  have HI0 := Lib.hid (And.intro iv0 (And.intro bc0 (And.intro hsrc0 (And.intro hcur0 (And.intro hsz0 hzz0)))))
  clear iv0 bc0 hsrc0 hcur0 hsz0 hown0 hgrow0 bm0 hzz0 bbm0
  go_wp2_with (refine wpList_copy_own rfl (.tmp 42) (.tmp 43) 22 22 rfl 5 Try.underlying22 (by kernel_rfl) w1.heap.size 0 n n ⟨ba, oa, none⟩ n cap rfl rfl cur0 5 HI0.out.2.2.2.1 (cb la) (by rw [cb_length, hla]; simp) HI0.out.2.2.1 (by rw [cb_length, hla, HI0.out.2.2.2.2.1]; omega) (cb_one _) ?_; refine Hid.out ?_)
  refine Lib.hid ?_
  obtain ⟨v0, hv0⟩ : ∃ v, v = m0.setRow w1.heap.size (cb la ++ cur0.toList.drop (cb la).length).toArray := ⟨_, rfl⟩
  rw [← hv0]
  have iv0 := HI0.out.1
  have bc0 := HI0.out.2.1
  have hzz0 := HI0.out.2.2.2.2.2
  rw [← hv0] at iv0 bc0 hzz0
  clear hv0 HI0
  have bz0 : Below w1.heap.size w1 v0 := bc0
  go_wp2_with (at_make; refine wpList_make_full _ rfl _ _ 22 rfl v0.heap.size 5 i5 (.int .u8 0) 1 Try.underlying22 hi5 hy0 hy1 .i64 .i64 _ _ m rfl rfl rfl rfl (by rw [hy2]; omega) (by unfold maxLen; omega) (Nat.le_refl _) ?_)
  intro m1 hown1 hgrow1
  have bm1 : Below v0.heap.size v0 m1 := (Below.refl _ _).grown hgrow1 (Nat.le_refl _) (fun k hk => by cases hk)
  obtain ⟨cur1, hcur1, hsz1⟩ := made_block hown1
  have bbm1 : Below w1.heap.size w1 m1 := bz0.trans (bm1.mono bz0.size)
  have hsrc1 := cb_src lb ⟨bb, ob, none⟩ w1 m1 bbm1 HH.out.2.1
  have iv1 := HH.out.2.2.2.1 _ _ (copied lb hlb hcur1 hsz1)
  have bc1 : Below v0.heap.size v0 (m1.setRow v0.heap.size (cb lb ++ cur1.toList.drop (cb lb).length).toArray) := below_setRow bm1 (Nat.le_refl _) _
  have hzz1 : v0.heap.size < (m1.setRow v0.heap.size (cb lb ++ cur1.toList.drop (cb lb).length).toArray).heap.size := World.block_lt_of_cell? _ _ iv1.1
  have HI1 := Lib.hid (And.intro iv1 (And.intro bc1 (And.intro hsrc1 (And.intro hcur1 (And.intro hsz1 hzz1)))))
  clear iv1 bc1 hsrc1 hcur1 hsz1 hown1 hgrow1 bm1 hzz1 bbm1
  go_wp2_with (refine wpList_copy_own rfl (.tmp 51) (.tmp 52) 22 22 rfl 5 Try.underlying22 (by kernel_rfl) v0.heap.size 0 m m ⟨bb, ob, none⟩ m cap2 rfl rfl cur1 5 HI1.out.2.2.2.1 (cb lb) (by rw [cb_length, hlb]; simp) HI1.out.2.2.1 (by rw [cb_length, hlb, HI1.out.2.2.2.2.1]; omega) (cb_one _) ?_; refine Hid.out ?_)
  refine Lib.hid ?_
  obtain ⟨v1, hv1⟩ : ∃ v, v = m1.setRow v0.heap.size (cb lb ++ cur1.toList.drop (cb lb).length).toArray := ⟨_, rfl⟩
  rw [← hv1]
  have iv1 := HI1.out.1
  have bc1 := HI1.out.2.1
  have hzz1 := HI1.out.2.2.2.2.2
  rw [← hv1] at iv1 bc1 hzz1
  clear hv1 HI1
  have iva := iv0.on bc1 hzz0
  have bz1 : Below w1.heap.size w1 v1 := bz0.trans (bc1.mono bz0.size)
  have za : w1.heap.size < v1.heap.size := by have := bc1.size; omega
  have HA := Lib.hid (And.intro iva (And.intro iv1 bz1))
  clear iv0 bc0 hzz0 bz0 bz iva bc1 bz1
  clear iv1
  go_wp2_with fail
  refine (zzindex w1.heap.size 0 n n a0 a1 a2 a3 _ h4 (by omega) HA.out.1 HH.out.2.2.2.2.1).mono ?_
  rintro e w2 ⟨rfl, q2, rfl⟩
  rw [← HH.out.2.2.2.2.2.2.1]
  go_wp2_with fail
  refine (zzindex v0.heap.size 0 m m b0 b1 b2 b3 _ h4m (by omega) (HA.out.2.1.drewN _) HH.out.2.2.2.2.2.1).mono ?_
  rintro e w3 ⟨rfl, q3, rfl⟩
  rw [← HH.out.2.2.2.2.2.2.2.1]
  go_wp2_with fail
  refine (zzindex w1.heap.size 0 4 n a0 a1 a2 a3 _ (by omega) (by omega) (HA.out.1.drewN _) HH.out.2.2.2.2.1).mono ?_
  rintro e w4 ⟨rfl, q4, hq4⟩
  rw [← HH.out.2.2.2.2.2.2.1]
  have b4 : Below v1.heap.size v1 w4 := by rw [hq4]; exact below_drewN (below_drewN (Below.refl _ _) _) _
  have cA := HA.out.1.on b4 za
  have cB := HA.out.2.1.on b4 hzz1
  have bb4 : Below w1.heap.size w1 w4 := HA.out.2.2.trans (b4.mono HA.out.2.2.size)
  clear hq4 b4
  have za4 : w1.heap.size < w4.heap.size := World.block_lt_of_cell? _ _ cA.1
  have zb4 : v0.heap.size < w4.heap.size := World.block_lt_of_cell? _ _ cB.1
  clear za hzz1
  have HC := Lib.hid (And.intro cA (And.intro cB bb4))
  clear cA cB bb4
  have fx0 : (a0 != b0) = false := by rw [bne_eq_false_iff_eq]; exact h0
  have fx1 : (a0 == b0) = true := by rw [beq_iff_eq]; exact h0
  have fx2 : (a1 != b1) = false := by rw [bne_eq_false_iff_eq]; exact h1
  have fx3 : (a1 == b1) = true := by rw [beq_iff_eq]; exact h1
  have fx4 : (a2 != b2) = true := by rw [bne_iff_ne]; omega
  have fx5 : (a2 == b2) = false := by rw [beq_eq_false_iff_ne]; omega
  have fx6 : IA < IB := by rw [HH.out.2.2.2.2.2.2.1, HH.out.2.2.2.2.2.2.2.1]; unfold idx; omega
  have fx7 : (IA == IB) = false := by rw [beq_eq_false_iff_ne, HH.out.2.2.2.2.2.2.1, HH.out.2.2.2.2.2.2.2.1]; unfold idx; omega
  have hdd : a2 < b2 := by omega
  clear h0 h1 hd
  have ca0 := HC.out.1.1; have ca1 := HC.out.1.2.1; have ca2 := HC.out.1.2.2.1; have ca3 := HC.out.1.2.2.2
  have cb0 := HC.out.2.1.1; have cb1 := HC.out.2.1.2.1; have cb2 := HC.out.2.1.2.2.1; have cb3 := HC.out.2.1.2.2.2
  clear ca0 ca1 ca2 ca3 cb0 cb1 cb2 cb3
  have nn : ∀ j : Int, j < 4 → j < (n : Int) := fun j h => by omega
  have n0 : (0 : Int) < (n : Int) := by omega
  have n1 : (1 : Int) < (n : Int) := by omega
  have n2 : (2 : Int) < (n : Int) := by omega
  have n3 : (3 : Int) < (n : Int) := by omega
  have k0 : (0 : Int) < (m : Int) := by omega
  have k1 : (1 : Int) < (m : Int) := by omega
  have k2 : (2 : Int) < (m : Int) := by omega
  have k3 : (3 : Int) < (m : Int) := by omega
  clear nn
  go_wp2
  go_loopw [9, 10] (fun lex i wr => ∃ k : Nat, k ≤ 2 ∧ i = .int .i64 k ∧ lex = .int .i64 0 ∧ Below w4.heap.size w4 wr) (fun _ i _ => 5 - (RowKit.intOf i).toNat)
  case atStart => exact ⟨0, Nat.zero_le _, rfl, rfl, Below.refl _ _⟩
  case round =>
    obtain ⟨k, hk, rfl, rfl, hb⟩ := hrel
    have cA := HC.out.1.on hb za4
    have cB := HC.out.2.1.on hb zb4
    obtain ⟨x0, x1, x2, x3⟩ := cA
    obtain ⟨y0, y1, y2, y3⟩ := cB
    have bbr : Below w1.heap.size w1 wr := HC.out.2.2.trans (hb.mono HC.out.2.2.size)
    have HBR := Lib.hid (And.intro bbr hb)
    clear bbr hb
    rcases (show k = 0 ∨ k = 1 ∨ k = 2 from by omega) with rfl | rfl | rfl
    · go_wp2
      go_quiet (fail)
      go_wp2
      go_roundw
      case rel => exact ⟨1, by omega, by go_num, rfl, below_drewN HBR.out.2 _⟩
      case measure => simp [RowKit.intOf]
    · go_wp2
      go_quiet (fail)
      go_wp2
      go_roundw
      case rel => exact ⟨2, by omega, by go_num, rfl, below_drewN HBR.out.2 _⟩
      case measure => simp [RowKit.intOf]
    · go_wp2
      go_quiet (fail)
      go_wp2
      go_quiet (fail)
      go_wp2
      go_quiet (fail)
      go_wp2
      go_ret
      first | exact ⟨rfl, below_drewN HBR.out.1 _⟩ | exact ⟨rfl, below_drewN (below_drewN HBR.out.1 _) _⟩ | exact ⟨rfl, below_drewN (below_drewN (below_drewN HBR.out.1 _) _) _⟩

set_option maxRecDepth 100000 in
set_option maxHeartbeats 12800000 in
theorem ord_2g (ba oa bb ob n cap m cap2 : Nat) (la lb : List Int) (a0 a1 a2 a3 b0 b1 b2 b3 : Int) (w : World) (hn : n ≤ 1048576) (h4 : 4 ≤ n) (hm : m ≤ 1048576) (h4m : 4 ≤ m) (hsum : n + m ≤ 1048576)
    (hla : la.length = n) (hlb : lb.length = m) (hca : ∀ j (h : j < la.length), w.cell? ((⟨ba, oa, none⟩ : Addr).add j) = some (.int .u8 la[j])) (hcb : ∀ j (h : j < lb.length), w.cell? ((⟨bb, ob, none⟩ : Addr).add j) = some (.int .u8 lb[j]))
    (e0 : la[0]? = some a0) (e1 : la[1]? = some a1) (e2 : la[2]? = some a2) (e3 : la[3]? = some a3) (f0 : lb[0]? = some b0) (f1 : lb[1]? = some b1) (f2 : lb[2]? = some b2) (f3 : lb[3]? = some b3)
    (haa : At4 w ba oa a0 a1 a2 a3) (hbb : At4 w bb ob b0 b1 b2 b3) (ca : Code4 a0 a1 a2 a3) (cbd : Code4 b0 b1 b2 b3) (h0 : a0 = b0) (h1 : a1 = b1) (hd : a2 > b2) :
    Calls Try.prog 4 #[.slice (some ⟨ba, oa, none⟩) n cap, .slice (some ⟨bb, ob, none⟩) m cap2] w fun e w' => e = .returned (.bool true) ∧ Below w.heap.size w w' := by
  have hn22 := fun (w : World) a n c => run_neq_slice_nil_any (P := Try.prog) w 22 5 a n c 0 0 Try.underlying22
  obtain ⟨i5, hi5, hy0, hy1, hy2⟩ := info_parts infoByte
  have ga : ∀ (W : World) (g : Nat), (∀ k (h : k < la.length), W.cell? ⟨g, k, none⟩ = some (.int .u8 la[k])) → At4 W g 0 a0 a1 a2 a3 := fun W g h => at4_of_list h4 hla e0 e1 e2 e3 h
  have gb : ∀ (W : World) (g : Nat), (∀ k (h : k < lb.length), W.cell? ⟨g, k, none⟩ = some (.int .u8 lb[k])) → At4 W g 0 b0 b1 b2 b3 := fun W g h => at4_of_list h4m hlb f0 f1 f2 f3 h
  have hia := idx_bounds a0 a1 a2 a3 ca
  have hib := idx_bounds b0 b1 b2 b3 cbd
  obtain ⟨IA, hIA⟩ : ∃ I, I = idx a0 a1 a2 a3 := ⟨_, rfl⟩
  obtain ⟨IB, hIB⟩ : ∃ I, I = idx b0 b1 b2 b3 := ⟨_, rfl⟩
  rw [← hIA] at hia
  rw [← hIB] at hib
  obtain ⟨hA0, hA1⟩ := hia
  obtain ⟨hB0, hB1⟩ := hib
  have HH := Lib.hid (And.intro hca (And.intro hcb (And.intro ga (And.intro gb (And.intro ca (And.intro cbd (And.intro hIA (And.intro hIB (And.intro haa hbb)))))))))
  obtain ⟨⟨p1, p2⟩, ⟨p3, p4⟩, ⟨p5, p6⟩, ⟨p7, p8⟩⟩ := ca
  obtain ⟨⟨r1, r2⟩, ⟨r3, r4⟩, ⟨r5, r6⟩, ⟨r7, r8⟩⟩ := cbd
  clear hca hcb ga gb e0 e1 e2 e3 f0 f1 f2 f3 hIA hIB haa hbb
  go_enter Try.func4, Try.ntmps4
  go_wp2_with fail
  refine (zz_small9 _ _ n cap m cap2 w hsum).mono ?_
  rintro e w0 ⟨rfl, rfl⟩
  go_wp2_with fail
  refine (valid_yes ba oa n cap a0 a1 a2 a3 w0 h4 (by omega) HH.out.2.2.2.2.2.2.2.2.1 HH.out.2.2.2.2.1).mono ?_
  rintro e w1' ⟨rfl, rfl⟩
  go_wp2_with fail
  refine (valid_yes bb ob m cap2 b0 b1 b2 b3 w1' h4m (by omega) HH.out.2.2.2.2.2.2.2.2.2 HH.out.2.2.2.2.2.1).mono ?_
  rintro e w1 ⟨rfl, rfl⟩
  have bz : Below w1.heap.size w1 w1 := Below.refl _ _
  go_wp2_with (at_make; refine wpList_make_full _ rfl _ _ 22 rfl w1.heap.size 5 i5 (.int .u8 0) 1 Try.underlying22 hi5 hy0 hy1 .i64 .i64 _ _ n rfl rfl rfl rfl (by rw [hy2]; omega) (by unfold maxLen; omega) (Nat.le_refl _) ?_)
  intro m0 hown0 hgrow0
  have bm0 : Below w1.heap.size w1 m0 := (Below.refl _ _).grown hgrow0 (Nat.le_refl _) (fun k hk => by cases hk)
  obtain ⟨cur0, hcur0, hsz0⟩ := made_block hown0
  have bbm0 : Below w1.heap.size w1 m0 := bz.trans (bm0.mono bz.size)
  have hsrc0 := cb_src la ⟨ba, oa, none⟩ w1 m0 bbm0 HH.out.1
  have iv0 := HH.out.2.2.1 _ _ (copied la hla hcur0 hsz0)
  have bc0 : Below w1.heap.size w1 (m0.setRow w1.heap.size (cb la ++ cur0.toList.drop (cb la).length).toArray) := below_setRow bm0 (Nat.le_refl _) _
  have hzz0 : w1.heap.size < (m0.setRow w1.heap.size (cb la ++ cur0.toList.drop (cb la).length).toArray).heap.size := World.block_lt_of_cell? _ _ iv0.1
  have HI0 := Lib.hid (And.intro iv0 (And.intro bc0 (And.intro hsrc0 (And.intro hcur0 (And.intro hsz0 hzz0)))))
  clear iv0 bc0 hsrc0 hcur0 hsz0 hown0 hgrow0 bm0 hzz0 bbm0
  go_wp2_with (refine wpList_copy_own rfl (.tmp 42) (.tmp 43) 22 22 rfl 5 Try.underlying22 (by kernel_rfl) w1.heap.size 0 n n ⟨ba, oa, none⟩ n cap rfl rfl cur0 5 HI0.out.2.2.2.1 (cb la) (by rw [cb_length, hla]; simp) HI0.out.2.2.1 (by rw [cb_length, hla, HI0.out.2.2.2.2.1]; omega) (cb_one _) ?_; refine Hid.out ?_)
  refine Lib.hid ?_
  obtain ⟨v0, hv0⟩ : ∃ v, v = m0.setRow w1.heap.size (cb la ++ cur0.toList.drop (cb la).length).toArray := ⟨_, rfl⟩
  rw [← hv0]
  have iv0 := HI0.out.1
  have bc0 := HI0.out.2.1
  have hzz0 := HI0.out.2.2.2.2.2
  rw [← hv0] at iv0 bc0 hzz0
  clear hv0 HI0
  have bz0 : Below w1.heap.size w1 v0 := bc0
  go_wp2_with (at_make; refine wpList_make_full _ rfl _ _ 22 rfl v0.heap.size 5 i5 (.int .u8 0) 1 Try.underlying22 hi5 hy0 hy1 .i64 .i64 _ _ m rfl rfl rfl rfl (by rw [hy2]; omega) (by unfold maxLen; omega) (Nat.le_refl _) ?_)
  intro m1 hown1 hgrow1
  have bm1 : Below v0.heap.size v0 m1 := (Below.refl _ _).grown hgrow1 (Nat.le_refl _) (fun k hk => by cases hk)
  obtain ⟨cur1, hcur1, hsz1⟩ := made_block hown1
  have bbm1 : Below w1.heap.size w1 m1 := bz0.trans (bm1.mono bz0.size)
  have hsrc1 := cb_src lb ⟨bb, ob, none⟩ w1 m1 bbm1 HH.out.2.1
  have iv1 := HH.out.2.2.2.1 _ _ (copied lb hlb hcur1 hsz1)
  have bc1 : Below v0.heap.size v0 (m1.setRow v0.heap.size (cb lb ++ cur1.toList.drop (cb lb).length).toArray) := below_setRow bm1 (Nat.le_refl _) _
  have hzz1 : v0.heap.size < (m1.setRow v0.heap.size (cb lb ++ cur1.toList.drop (cb lb).length).toArray).heap.size := World.block_lt_of_cell? _ _ iv1.1
  have HI1 := Lib.hid (And.intro iv1 (And.intro bc1 (And.intro hsrc1 (And.intro hcur1 (And.intro hsz1 hzz1)))))
  clear iv1 bc1 hsrc1 hcur1 hsz1 hown1 hgrow1 bm1 hzz1 bbm1
  go_wp2_with (refine wpList_copy_own rfl (.tmp 51) (.tmp 52) 22 22 rfl 5 Try.underlying22 (by kernel_rfl) v0.heap.size 0 m m ⟨bb, ob, none⟩ m cap2 rfl rfl cur1 5 HI1.out.2.2.2.1 (cb lb) (by rw [cb_length, hlb]; simp) HI1.out.2.2.1 (by rw [cb_length, hlb, HI1.out.2.2.2.2.1]; omega) (cb_one _) ?_; refine Hid.out ?_)
  refine Lib.hid ?_
  obtain ⟨v1, hv1⟩ : ∃ v, v = m1.setRow v0.heap.size (cb lb ++ cur1.toList.drop (cb lb).length).toArray := ⟨_, rfl⟩
  rw [← hv1]
  have iv1 := HI1.out.1
  have bc1 := HI1.out.2.1
  have hzz1 := HI1.out.2.2.2.2.2
  rw [← hv1] at iv1 bc1 hzz1
  clear hv1 HI1
  have iva := iv0.on bc1 hzz0
  have bz1 : Below w1.heap.size w1 v1 := bz0.trans (bc1.mono bz0.size)
  have za : w1.heap.size < v1.heap.size := by have := bc1.size; omega
  have HA := Lib.hid (And.intro iva (And.intro iv1 bz1))
  clear iv0 bc0 hzz0 bz0 bz iva bc1 bz1
  clear iv1
  go_wp2_with fail
  refine (zzindex w1.heap.size 0 n n a0 a1 a2 a3 _ h4 (by omega) HA.out.1 HH.out.2.2.2.2.1).mono ?_
  rintro e w2 ⟨rfl, q2, rfl⟩
  rw [← HH.out.2.2.2.2.2.2.1]
  go_wp2_with fail
  refine (zzindex v0.heap.size 0 m m b0 b1 b2 b3 _ h4m (by omega) (HA.out.2.1.drewN _) HH.out.2.2.2.2.2.1).mono ?_
  rintro e w3 ⟨rfl, q3, rfl⟩
  rw [← HH.out.2.2.2.2.2.2.2.1]
  go_wp2_with fail
  refine (zzindex w1.heap.size 0 4 n a0 a1 a2 a3 _ (by omega) (by omega) (HA.out.1.drewN _) HH.out.2.2.2.2.1).mono ?_
  rintro e w4 ⟨rfl, q4, hq4⟩
  rw [← HH.out.2.2.2.2.2.2.1]
  have b4 : Below v1.heap.size v1 w4 := by rw [hq4]; exact below_drewN (below_drewN (Below.refl _ _) _) _
  have cA := HA.out.1.on b4 za
  have cB := HA.out.2.1.on b4 hzz1
  have bb4 : Below w1.heap.size w1 w4 := HA.out.2.2.trans (b4.mono HA.out.2.2.size)
  clear hq4 b4
  have za4 : w1.heap.size < w4.heap.size := World.block_lt_of_cell? _ _ cA.1
  have zb4 : v0.heap.size < w4.heap.size := World.block_lt_of_cell? _ _ cB.1
  clear za hzz1
  have HC := Lib.hid (And.intro cA (And.intro cB bb4))
  clear cA cB bb4
  have fx0 : (a0 != b0) = false := by rw [bne_eq_false_iff_eq]; exact h0
  have fx1 : (a0 == b0) = true := by rw [beq_iff_eq]; exact h0
  have fx2 : (a1 != b1) = false := by rw [bne_eq_false_iff_eq]; exact h1
  have fx3 : (a1 == b1) = true := by rw [beq_iff_eq]; exact h1
  have fx4 : (a2 != b2) = true := by rw [bne_iff_ne]; omega
  have fx5 : (a2 == b2) = false := by rw [beq_eq_false_iff_ne]; omega
  have fx6 : IB < IA := by rw [HH.out.2.2.2.2.2.2.1, HH.out.2.2.2.2.2.2.2.1]; unfold idx; omega
  have fx7 : (IA == IB) = false := by rw [beq_eq_false_iff_ne, HH.out.2.2.2.2.2.2.1, HH.out.2.2.2.2.2.2.2.1]; unfold idx; omega
  have hdd : ¬ a2 < b2 := by omega
  clear h0 h1 hd
  have ca0 := HC.out.1.1; have ca1 := HC.out.1.2.1; have ca2 := HC.out.1.2.2.1; have ca3 := HC.out.1.2.2.2
  have cb0 := HC.out.2.1.1; have cb1 := HC.out.2.1.2.1; have cb2 := HC.out.2.1.2.2.1; have cb3 := HC.out.2.1.2.2.2
  clear ca0 ca1 ca2 ca3 cb0 cb1 cb2 cb3
  have nn : ∀ j : Int, j < 4 → j < (n : Int) := fun j h => by omega
  have n0 : (0 : Int) < (n : Int) := by omega
  have n1 : (1 : Int) < (n : Int) := by omega
  have n2 : (2 : Int) < (n : Int) := by omega
  have n3 : (3 : Int) < (n : Int) := by omega
  have k0 : (0 : Int) < (m : Int) := by omega
  have k1 : (1 : Int) < (m : Int) := by omega
  have k2 : (2 : Int) < (m : Int) := by omega
  have k3 : (3 : Int) < (m : Int) := by omega
  clear nn
  go_wp2
  go_loopw [9, 10] (fun lex i wr => ∃ k : Nat, k ≤ 2 ∧ i = .int .i64 k ∧ lex = .int .i64 0 ∧ Below w4.heap.size w4 wr) (fun _ i _ => 5 - (RowKit.intOf i).toNat)
  case atStart => exact ⟨0, Nat.zero_le _, rfl, rfl, Below.refl _ _⟩
  case round =>
    obtain ⟨k, hk, rfl, rfl, hb⟩ := hrel
    have cA := HC.out.1.on hb za4
    have cB := HC.out.2.1.on hb zb4
    obtain ⟨x0, x1, x2, x3⟩ := cA
    obtain ⟨y0, y1, y2, y3⟩ := cB
    have bbr : Below w1.heap.size w1 wr := HC.out.2.2.trans (hb.mono HC.out.2.2.size)
    have HBR := Lib.hid (And.intro bbr hb)
    clear bbr hb
    rcases (show k = 0 ∨ k = 1 ∨ k = 2 from by omega) with rfl | rfl | rfl
    · go_wp2
      go_quiet (fail)
      go_wp2
      go_roundw
      case rel => exact ⟨1, by omega, by go_num, rfl, below_drewN HBR.out.2 _⟩
      case measure => simp [RowKit.intOf]
    · go_wp2
      go_quiet (fail)
      go_wp2
      go_roundw
      case rel => exact ⟨2, by omega, by go_num, rfl, below_drewN HBR.out.2 _⟩
      case measure => simp [RowKit.intOf]
    · go_wp2
      go_quiet (fail)
      go_wp2
      go_quiet (fail)
      go_wp2
      go_quiet (fail)
      go_wp2
      go_ret
      first | exact ⟨rfl, below_drewN HBR.out.1 _⟩ | exact ⟨rfl, below_drewN (below_drewN HBR.out.1 _) _⟩ | exact ⟨rfl, below_drewN (below_drewN (below_drewN HBR.out.1 _) _) _⟩

set_option maxRecDepth 100000 in
set_option maxHeartbeats 12800000 in
theorem ord_3l (ba oa bb ob n cap m cap2 : Nat) (la lb : List Int) (a0 a1 a2 a3 b0 b1 b2 b3 : Int) (w : World) (hn : n ≤ 1048576) (h4 : 4 ≤ n) (hm : m ≤ 1048576) (h4m : 4 ≤ m) (hsum : n + m ≤ 1048576)
    (hla : la.length = n) (hlb : lb.length = m) (hca : ∀ j (h : j < la.length), w.cell? ((⟨ba, oa, none⟩ : Addr).add j) = some (.int .u8 la[j])) (hcb : ∀ j (h : j < lb.length), w.cell? ((⟨bb, ob, none⟩ : Addr).add j) = some (.int .u8 lb[j]))
    (e0 : la[0]? = some a0) (e1 : la[1]? = some a1) (e2 : la[2]? = some a2) (e3 : la[3]? = some a3) (f0 : lb[0]? = some b0) (f1 : lb[1]? = some b1) (f2 : lb[2]? = some b2) (f3 : lb[3]? = some b3)
    (haa : At4 w ba oa a0 a1 a2 a3) (hbb : At4 w bb ob b0 b1 b2 b3) (ca : Code4 a0 a1 a2 a3) (cbd : Code4 b0 b1 b2 b3) (h0 : a0 = b0) (h1 : a1 = b1) (h2 : a2 = b2) (hd : a3 < b3) :
    Calls Try.prog 4 #[.slice (some ⟨ba, oa, none⟩) n cap, .slice (some ⟨bb, ob, none⟩) m cap2] w fun e w' => e = .returned (.bool true) ∧ Below w.heap.size w w' := by
  have hn22 := fun (w : World) a n c => run_neq_slice_nil_any (P := Try.prog) w 22 5 a n c 0 0 Try.underlying22
  obtain ⟨i5, hi5, hy0, hy1, hy2⟩ := info_parts infoByte
  have ga : ∀ (W : World) (g : Nat), (∀ k (h : k < la.length), W.cell? ⟨g, k, none⟩ = some (.int .u8 la[k])) → At4 W g 0 a0 a1 a2 a3 := fun W g h => at4_of_list h4 hla e0 e1 e2 e3 h
  have gb : ∀ (W : World) (g : Nat), (∀ k (h : k < lb.length), W.cell? ⟨g, k, none⟩ = some (.int .u8 lb[k])) → At4 W g 0 b0 b1 b2 b3 := fun W g h => at4_of_list h4m hlb f0 f1 f2 f3 h
  have hia := idx_bounds a0 a1 a2 a3 ca
  have hib := idx_bounds b0 b1 b2 b3 cbd
  obtain ⟨IA, hIA⟩ : ∃ I, I = idx a0 a1 a2 a3 := ⟨_, rfl⟩
  obtain ⟨IB, hIB⟩ : ∃ I, I = idx b0 b1 b2 b3 := ⟨_, rfl⟩
  rw [← hIA] at hia
  rw [← hIB] at hib
  obtain ⟨hA0, hA1⟩ := hia
  obtain ⟨hB0, hB1⟩ := hib
  have HH := Lib.hid (And.intro hca (And.intro hcb (And.intro ga (And.intro gb (And.intro ca (And.intro cbd (And.intro hIA (And.intro hIB (And.intro haa hbb)))))))))
  obtain ⟨⟨p1, p2⟩, ⟨p3, p4⟩, ⟨p5, p6⟩, ⟨p7, p8⟩⟩ := ca
  obtain ⟨⟨r1, r2⟩, ⟨r3, r4⟩, ⟨r5, r6⟩, ⟨r7, r8⟩⟩ := cbd
  clear hca hcb ga gb e0 e1 e2 e3 f0 f1 f2 f3 hIA hIB haa hbb
  go_enter Try.func4, Try.ntmps4
  go_wp2_with fail
  refine (zz_small9 _ _ n cap m cap2 w hsum).mono ?_
  rintro e w0 ⟨rfl, rfl⟩
  go_wp2_with fail
  refine (valid_yes ba oa n cap a0 a1 a2 a3 w0 h4 (by omega) HH.out.2.2.2.2.2.2.2.2.1 HH.out.2.2.2.2.1).mono ?_
  rintro e w1' ⟨rfl, rfl⟩
  go_wp2_with fail
  refine (valid_yes bb ob m cap2 b0 b1 b2 b3 w1' h4m (by omega) HH.out.2.2.2.2.2.2.2.2.2 HH.out.2.2.2.2.2.1).mono ?_
  rintro e w1 ⟨rfl, rfl⟩
  have bz : Below w1.heap.size w1 w1 := Below.refl _ _
  go_wp2_with (at_make; refine wpList_make_full _ rfl _ _ 22 rfl w1.heap.size 5 i5 (.int .u8 0) 1 Try.underlying22 hi5 hy0 hy1 .i64 .i64 _ _ n rfl rfl rfl rfl (by rw [hy2]; omega) (by unfold maxLen; omega) (Nat.le_refl _) ?_)
  intro m0 hown0 hgrow0
  have bm0 : Below w1.heap.size w1 m0 := (Below.refl _ _).grown hgrow0 (Nat.le_refl _) (fun k hk => by cases hk)
  obtain ⟨cur0, hcur0, hsz0⟩ := made_block hown0
  have bbm0 : Below w1.heap.size w1 m0 := bz.trans (bm0.mono bz.size)
  have hsrc0 := cb_src la ⟨ba, oa, none⟩ w1 m0 bbm0 HH.out.1
  have iv0 := HH.out.2.2.1 _ _ (copied la hla hcur0 hsz0)
  have bc0 : Below w1.heap.size w1 (m0.setRow w1.heap.size (cb la ++ cur0.toList.drop (cb la).length).toArray) := below_setRow bm0 (Nat.le_refl _) _
  have hzz0 : w1.heap.size < (m0.setRow w1.heap.size (cb la ++ cur0.toList.drop (cb la).length).toArray).heap.size := World.block_lt_of_cell? _ _ iv0.1
  have HI0 := Lib.hid (And.intro iv0 (And.intro bc0 (And.intro hsrc0 (And.intro hcur0 (And.intro hsz0 hzz0)))))
  clear iv0 bc0 hsrc0 hcur0 hsz0 hown0 hgrow0 bm0 hzz0 bbm0
  go_wp2_with (refine wpList_copy_own rfl (.tmp 42) (.tmp 43) 22 22 rfl 5 Try.underlying22 (by kernel_rfl) w1.heap.size 0 n n ⟨ba, oa, none⟩ n cap rfl rfl cur0 5 HI0.out.2.2.2.1 (cb la) (by rw [cb_length, hla]; simp) HI0.out.2.2.1 (by rw [cb_length, hla, HI0.out.2.2.2.2.1]; omega) (cb_one _) ?_; refine Hid.out ?_)
  refine Lib.hid ?_
  obtain ⟨v0, hv0⟩ : ∃ v, v = m0.setRow w1.heap.size (cb la ++ cur0.toList.drop (cb la).length).toArray := ⟨_, rfl⟩
  rw [← hv0]
  have iv0 := HI0.out.1
  have bc0 := HI0.out.2.1
  have hzz0 := HI0.out.2.2.2.2.2
  rw [← hv0] at iv0 bc0 hzz0
  clear hv0 HI0
  have bz0 : Below w1.heap.size w1 v0 := bc0
  go_wp2_with (at_make; refine wpList_make_full _ rfl _ _ 22 rfl v0.heap.size 5 i5 (.int .u8 0) 1 Try.underlying22 hi5 hy0 hy1 .i64 .i64 _ _ m rfl rfl rfl rfl (by rw [hy2]; omega) (by unfold maxLen; omega) (Nat.le_refl _) ?_)
  intro m1 hown1 hgrow1
  have bm1 : Below v0.heap.size v0 m1 := (Below.refl _ _).grown hgrow1 (Nat.le_refl _) (fun k hk => by cases hk)
  obtain ⟨cur1, hcur1, hsz1⟩ := made_block hown1
  have bbm1 : Below w1.heap.size w1 m1 := bz0.trans (bm1.mono bz0.size)
  have hsrc1 := cb_src lb ⟨bb, ob, none⟩ w1 m1 bbm1 HH.out.2.1
  have iv1 := HH.out.2.2.2.1 _ _ (copied lb hlb hcur1 hsz1)
  have bc1 : Below v0.heap.size v0 (m1.setRow v0.heap.size (cb lb ++ cur1.toList.drop (cb lb).length).toArray) := below_setRow bm1 (Nat.le_refl _) _
  have hzz1 : v0.heap.size < (m1.setRow v0.heap.size (cb lb ++ cur1.toList.drop (cb lb).length).toArray).heap.size := World.block_lt_of_cell? _ _ iv1.1
  have HI1 := Lib.hid (And.intro iv1 (And.intro bc1 (And.intro hsrc1 (And.intro hcur1 (And.intro hsz1 hzz1)))))
  clear iv1 bc1 hsrc1 hcur1 hsz1 hown1 hgrow1 bm1 hzz1 bbm1
  go_wp2_with (refine wpList_copy_own rfl (.tmp 51) (.tmp 52) 22 22 rfl 5 Try.underlying22 (by kernel_rfl) v0.heap.size 0 m m ⟨bb, ob, none⟩ m cap2 rfl rfl cur1 5 HI1.out.2.2.2.1 (cb lb) (by rw [cb_length, hlb]; simp) HI1.out.2.2.1 (by rw [cb_length, hlb, HI1.out.2.2.2.2.1]; omega) (cb_one _) ?_; refine Hid.out ?_)
  refine Lib.hid ?_
  obtain ⟨v1, hv1⟩ : ∃ v, v = m1.setRow v0.heap.size (cb lb ++ cur1.toList.drop (cb lb).length).toArray := ⟨_, rfl⟩
  rw [← hv1]
  have iv1 := HI1.out.1
  have bc1 := HI1.out.2.1
  have hzz1 := HI1.out.2.2.2.2.2
  rw [← hv1] at iv1 bc1 hzz1
  clear hv1 HI1
  have iva := iv0.on bc1 hzz0
  have bz1 : Below w1.heap.size w1 v1 := bz0.trans (bc1.mono bz0.size)
  have za : w1.heap.size < v1.heap.size := by have := bc1.size; omega
  have HA := Lib.hid (And.intro iva (And.intro iv1 bz1))
  clear iv0 bc0 hzz0 bz0 bz iva bc1 bz1
  clear iv1
  go_wp2_with fail
  refine (zzindex w1.heap.size 0 n n a0 a1 a2 a3 _ h4 (by omega) HA.out.1 HH.out.2.2.2.2.1).mono ?_
  rintro e w2 ⟨rfl, q2, rfl⟩
  rw [← HH.out.2.2.2.2.2.2.1]
  go_wp2_with fail
  refine (zzindex v0.heap.size 0 m m b0 b1 b2 b3 _ h4m (by omega) (HA.out.2.1.drewN _) HH.out.2.2.2.2.2.1).mono ?_
  rintro e w3 ⟨rfl, q3, rfl⟩
  rw [← HH.out.2.2.2.2.2.2.2.1]
  go_wp2_with fail
  refine (zzindex w1.heap.size 0 4 n a0 a1 a2 a3 _ (by omega) (by omega) (HA.out.1.drewN _) HH.out.2.2.2.2.1).mono ?_
  rintro e w4 ⟨rfl, q4, hq4⟩
  rw [← HH.out.2.2.2.2.2.2.1]
  have b4 : Below v1.heap.size v1 w4 := by rw [hq4]; exact below_drewN (below_drewN (Below.refl _ _) _) _
  have cA := HA.out.1.on b4 za
  have cB := HA.out.2.1.on b4 hzz1
  have bb4 : Below w1.heap.size w1 w4 := HA.out.2.2.trans (b4.mono HA.out.2.2.size)
  clear hq4 b4
  have za4 : w1.heap.size < w4.heap.size := World.block_lt_of_cell? _ _ cA.1
  have zb4 : v0.heap.size < w4.heap.size := World.block_lt_of_cell? _ _ cB.1
  clear za hzz1
  have HC := Lib.hid (And.intro cA (And.intro cB bb4))
  clear cA cB bb4
  have fx0 : (a0 != b0) = false := by rw [bne_eq_false_iff_eq]; exact h0
  have fx1 : (a0 == b0) = true := by rw [beq_iff_eq]; exact h0
  have fx2 : (a1 != b1) = false := by rw [bne_eq_false_iff_eq]; exact h1
  have fx3 : (a1 == b1) = true := by rw [beq_iff_eq]; exact h1
  have fx4 : (a2 != b2) = false := by rw [bne_eq_false_iff_eq]; exact h2
  have fx5 : (a2 == b2) = true := by rw [beq_iff_eq]; exact h2
  have fx6 : (a3 != b3) = true := by rw [bne_iff_ne]; omega
  have fx7 : (a3 == b3) = false := by rw [beq_eq_false_iff_ne]; omega
  have fx8 : IA < IB := by rw [HH.out.2.2.2.2.2.2.1, HH.out.2.2.2.2.2.2.2.1]; unfold idx; omega
  have fx9 : (IA == IB) = false := by rw [beq_eq_false_iff_ne, HH.out.2.2.2.2.2.2.1, HH.out.2.2.2.2.2.2.2.1]; unfold idx; omega
  have fx10 : (IA - IB == a3 - b3) = true := by rw [beq_iff_eq, HH.out.2.2.2.2.2.2.1, HH.out.2.2.2.2.2.2.2.1]; unfold idx; omega
  have hdd : a3 < b3 := by omega
  clear h0 h1 h2 hd
  have ca0 := HC.out.1.1; have ca1 := HC.out.1.2.1; have ca2 := HC.out.1.2.2.1; have ca3 := HC.out.1.2.2.2
  have cb0 := HC.out.2.1.1; have cb1 := HC.out.2.1.2.1; have cb2 := HC.out.2.1.2.2.1; have cb3 := HC.out.2.1.2.2.2
  clear ca0 ca1 ca2 ca3 cb0 cb1 cb2 cb3
  have nn : ∀ j : Int, j < 4 → j < (n : Int) := fun j h => by omega
  have n0 : (0 : Int) < (n : Int) := by omega
  have n1 : (1 : Int) < (n : Int) := by omega
  have n2 : (2 : Int) < (n : Int) := by omega
  have n3 : (3 : Int) < (n : Int) := by omega
  have k0 : (0 : Int) < (m : Int) := by omega
  have k1 : (1 : Int) < (m : Int) := by omega
  have k2 : (2 : Int) < (m : Int) := by omega
  have k3 : (3 : Int) < (m : Int) := by omega
  clear nn
  go_wp2
  go_loopw [9, 10] (fun lex i wr => ∃ k : Nat, k ≤ 3 ∧ i = .int .i64 k ∧ lex = .int .i64 0 ∧ Below w4.heap.size w4 wr) (fun _ i _ => 5 - (RowKit.intOf i).toNat)
  case atStart => exact ⟨0, Nat.zero_le _, rfl, rfl, Below.refl _ _⟩
  case round =>
    obtain ⟨k, hk, rfl, rfl, hb⟩ := hrel
    have cA := HC.out.1.on hb za4
    have cB := HC.out.2.1.on hb zb4
    obtain ⟨x0, x1, x2, x3⟩ := cA
    obtain ⟨y0, y1, y2, y3⟩ := cB
    have bbr : Below w1.heap.size w1 wr := HC.out.2.2.trans (hb.mono HC.out.2.2.size)
    have HBR := Lib.hid (And.intro bbr hb)
    clear bbr hb
    rcases (show k = 0 ∨ k = 1 ∨ k = 2 ∨ k = 3 from by omega) with rfl | rfl | rfl | rfl
    · go_wp2
      go_quiet (fail)
      go_wp2
      go_roundw
      case rel => exact ⟨1, by omega, by go_num, rfl, below_drewN HBR.out.2 _⟩
      case measure => simp [RowKit.intOf]
    · go_wp2
      go_quiet (fail)
      go_wp2
      go_roundw
      case rel => exact ⟨2, by omega, by go_num, rfl, below_drewN HBR.out.2 _⟩
      case measure => simp [RowKit.intOf]
    · go_wp2
      go_quiet (fail)
      go_wp2
      go_roundw
      case rel => exact ⟨3, by omega, by go_num, rfl, below_drewN HBR.out.2 _⟩
      case measure => simp [RowKit.intOf]
    · go_wp2
      go_quiet (fail)
      go_wp2
      go_quiet (fail)
      go_wp2
      go_quiet (fail)
      go_wp2
      go_quiet (fail)
      go_wp2
      go_ret
      first | exact ⟨rfl, below_drewN HBR.out.1 _⟩ | exact ⟨rfl, below_drewN (below_drewN HBR.out.1 _) _⟩ | exact ⟨rfl, below_drewN (below_drewN (below_drewN HBR.out.1 _) _) _⟩

set_option maxRecDepth 100000 in
set_option maxHeartbeats 12800000 in
theorem ord_3g (ba oa bb ob n cap m cap2 : Nat) (la lb : List Int) (a0 a1 a2 a3 b0 b1 b2 b3 : Int) (w : World) (hn : n ≤ 1048576) (h4 : 4 ≤ n) (hm : m ≤ 1048576) (h4m : 4 ≤ m) (hsum : n + m ≤ 1048576)
    (hla : la.length = n) (hlb : lb.length = m) (hca : ∀ j (h : j < la.length), w.cell? ((⟨ba, oa, none⟩ : Addr).add j) = some (.int .u8 la[j])) (hcb : ∀ j (h : j < lb.length), w.cell? ((⟨bb, ob, none⟩ : Addr).add j) = some (.int .u8 lb[j]))
    (e0 : la[0]? = some a0) (e1 : la[1]? = some a1) (e2 : la[2]? = some a2) (e3 : la[3]? = some a3) (f0 : lb[0]? = some b0) (f1 : lb[1]? = some b1) (f2 : lb[2]? = some b2) (f3 : lb[3]? = some b3)
    (haa : At4 w ba oa a0 a1 a2 a3) (hbb : At4 w bb ob b0 b1 b2 b3) (ca : Code4 a0 a1 a2 a3) (cbd : Code4 b0 b1 b2 b3) (h0 : a0 = b0) (h1 : a1 = b1) (h2 : a2 = b2) (hd : a3 > b3) :
    Calls Try.prog 4 #[.slice (some ⟨ba, oa, none⟩) n cap, .slice (some ⟨bb, ob, none⟩) m cap2] w fun e w' => e = .returned (.bool true) ∧ Below w.heap.size w w' := by
  have hn22 := fun (w : World) a n c => run_neq_slice_nil_any (P := Try.prog) w 22 5 a n c 0 0 Try.underlying22
  obtain ⟨i5, hi5, hy0, hy1, hy2⟩ := info_parts infoByte
  have ga : ∀ (W : World) (g : Nat), (∀ k (h : k < la.length), W.cell? ⟨g, k, none⟩ = some (.int .u8 la[k])) → At4 W g 0 a0 a1 a2 a3 := fun W g h => at4_of_list h4 hla e0 e1 e2 e3 h
  have gb : ∀ (W : World) (g : Nat), (∀ k (h : k < lb.length), W.cell? ⟨g, k, none⟩ = some (.int .u8 lb[k])) → At4 W g 0 b0 b1 b2 b3 := fun W g h => at4_of_list h4m hlb f0 f1 f2 f3 h
  have hia := idx_bounds a0 a1 a2 a3 ca
  have hib := idx_bounds b0 b1 b2 b3 cbd
  obtain ⟨IA, hIA⟩ : ∃ I, I = idx a0 a1 a2 a3 := ⟨_, rfl⟩
  obtain ⟨IB, hIB⟩ : ∃ I, I = idx b0 b1 b2 b3 := ⟨_, rfl⟩
  rw [← hIA] at hia
  rw [← hIB] at hib
  obtain ⟨hA0, hA1⟩ := hia
  obtain ⟨hB0, hB1⟩ := hib
  have HH := Lib.hid (And.intro hca (And.intro hcb (And.intro ga (And.intro gb (And.intro ca (And.intro cbd (And.intro hIA (And.intro hIB (And.intro haa hbb)))))))))
  obtain ⟨⟨p1, p2⟩, ⟨p3, p4⟩, ⟨p5, p6⟩, ⟨p7, p8⟩⟩ := ca
  obtain ⟨⟨r1, r2⟩, ⟨r3, r4⟩, ⟨r5, r6⟩, ⟨r7, r8⟩⟩ := cbd
  clear hca hcb ga gb e0 e1 e2 e3 f0 f1 f2 f3 hIA hIB haa hbb
  go_enter Try.func4, Try.ntmps4
  go_wp2_with fail
  refine (zz_small9 _ _ n cap m cap2 w hsum).mono ?_
  rintro e w0 ⟨rfl, rfl⟩
  go_wp2_with fail
  refine (valid_yes ba oa n cap a0 a1 a2 a3 w0 h4 (by omega) HH.out.2.2.2.2.2.2.2.2.1 HH.out.2.2.2.2.1).mono ?_
  rintro e w1' ⟨rfl, rfl⟩
  go_wp2_with fail
  refine (valid_yes bb ob m cap2 b0 b1 b2 b3 w1' h4m (by omega) HH.out.2.2.2.2.2.2.2.2.2 HH.out.2.2.2.2.2.1).mono ?_
  rintro e w1 ⟨rfl, rfl⟩
  have bz : Below w1.heap.size w1 w1 := Below.refl _ _
  go_wp2_with (at_make; refine wpList_make_full _ rfl _ _ 22 rfl w1.heap.size 5 i5 (.int .u8 0) 1 Try.underlying22 hi5 hy0 hy1 .i64 .i64 _ _ n rfl rfl rfl rfl (by rw [hy2]; omega) (by unfold maxLen; omega) (Nat.le_refl _) ?_)
  intro m0 hown0 hgrow0
  have bm0 : Below w1.heap.size w1 m0 := (Below.refl _ _).grown hgrow0 (Nat.le_refl _) (fun k hk => by cases hk)
  obtain ⟨cur0, hcur0, hsz0⟩ := made_block hown0
  have bbm0 : Below w1.heap.size w1 m0 := bz.trans (bm0.mono bz.size)
  have hsrc0 := cb_src la ⟨ba, oa, none⟩ w1 m0 bbm0 HH.out.1
  have iv0 := HH.out.2.2.1 _ _ (copied la hla hcur0 hsz0)
  have bc0 : Below w1.heap.size w1 (m0.setRow w1.heap.size (cb la ++ cur0.toList.drop (cb la).length).toArray) := below_setRow bm0 (Nat.le_refl _) _
  have hzz0 : w1.heap.size < (m0.setRow w1.heap.size (cb la ++ cur0.toList.drop (cb la).length).toArray).heap.size := World.block_lt_of_cell? _ _ iv0.1
  have HI0 := Lib.hid (And.intro iv0 (And.intro bc0 (And.intro hsrc0 (And.intro hcur0 (And.intro hsz0 hzz0)))))
  clear iv0 bc0 hsrc0 hcur0 hsz0 hown0 hgrow0 bm0 hzz0 bbm0
  go_wp2_with (refine wpList_copy_own rfl (.tmp 42) (.tmp 43) 22 22 rfl 5 Try.underlying22 (by kernel_rfl) w1.heap.size 0 n n ⟨ba, oa, none⟩ n cap rfl rfl cur0 5 HI0.out.2.2.2.1 (cb la) (by rw [cb_length, hla]; simp) HI0.out.2.2.1 (by rw [cb_length, hla, HI0.out.2.2.2.2.1]; omega) (cb_one _) ?_; refine Hid.out ?_)
  refine Lib.hid ?_
  obtain ⟨v0, hv0⟩ : ∃ v, v = m0.setRow w1.heap.size (cb la ++ cur0.toList.drop (cb la).length).toArray := ⟨_, rfl⟩
  rw [← hv0]
  have iv0 := HI0.out.1
  have bc0 := HI0.out.2.1
  have hzz0 := HI0.out.2.2.2.2.2
  rw [← hv0] at iv0 bc0 hzz0
  clear hv0 HI0
  have bz0 : Below w1.heap.size w1 v0 := bc0
  go_wp2_with (at_make; refine wpList_make_full _ rfl _ _ 22 rfl v0.heap.size 5 i5 (.int .u8 0) 1 Try.underlying22 hi5 hy0 hy1 .i64 .i64 _ _ m rfl rfl rfl rfl (by rw [hy2]; omega) (by unfold maxLen; omega) (Nat.le_refl _) ?_)
  intro m1 hown1 hgrow1
  have bm1 : Below v0.heap.size v0 m1 := (Below.refl _ _).grown hgrow1 (Nat.le_refl _) (fun k hk => by cases hk)
  obtain ⟨cur1, hcur1, hsz1⟩ := made_block hown1
  have bbm1 : Below w1.heap.size w1 m1 := bz0.trans (bm1.mono bz0.size)
  have hsrc1 := cb_src lb ⟨bb, ob, none⟩ w1 m1 bbm1 HH.out.2.1
  have iv1 := HH.out.2.2.2.1 _ _ (copied lb hlb hcur1 hsz1)
  have bc1 : Below v0.heap.size v0 (m1.setRow v0.heap.size (cb lb ++ cur1.toList.drop (cb lb).length).toArray) := below_setRow bm1 (Nat.le_refl _) _
  have hzz1 : v0.heap.size < (m1.setRow v0.heap.size (cb lb ++ cur1.toList.drop (cb lb).length).toArray).heap.size := World.block_lt_of_cell? _ _ iv1.1
  have HI1 := Lib.hid (And.intro iv1 (And.intro bc1 (And.intro hsrc1 (And.intro hcur1 (And.intro hsz1 hzz1)))))
  clear iv1 bc1 hsrc1 hcur1 hsz1 hown1 hgrow1 bm1 hzz1 bbm1
  go_wp2_with (refine wpList_copy_own rfl (.tmp 51) (.tmp 52) 22 22 rfl 5 Try.underlying22 (by kernel_rfl) v0.heap.size 0 m m ⟨bb, ob, none⟩ m cap2 rfl rfl cur1 5 HI1.out.2.2.2.1 (cb lb) (by rw [cb_length, hlb]; simp) HI1.out.2.2.1 (by rw [cb_length, hlb, HI1.out.2.2.2.2.1]; omega) (cb_one _) ?_; refine Hid.out ?_)
  refine Lib.hid ?_
  obtain ⟨v1, hv1⟩ : ∃ v, v = m1.setRow v0.heap.size (cb lb ++ cur1.toList.drop (cb lb).length).toArray := ⟨_, rfl⟩
  rw [← hv1]
  have iv1 := HI1.out.1
  have bc1 := HI1.out.2.1
  have hzz1 := HI1.out.2.2.2.2.2
  rw [← hv1] at iv1 bc1 hzz1
  clear hv1 HI1
  have iva := iv0.on bc1 hzz0
  have bz1 : Below w1.heap.size w1 v1 := bz0.trans (bc1.mono bz0.size)
  have za : w1.heap.size < v1.heap.size := by have := bc1.size; omega
  have HA := Lib.hid (And.intro iva (And.intro iv1 bz1))
  clear iv0 bc0 hzz0 bz0 bz iva bc1 bz1
  clear iv1
  go_wp2_with fail
  refine (zzindex w1.heap.size 0 n n a0 a1 a2 a3 _ h4 (by omega) HA.out.1 HH.out.2.2.2.2.1).mono ?_
  rintro e w2 ⟨rfl, q2, rfl⟩
  rw [← HH.out.2.2.2.2.2.2.1]
  go_wp2_with fail
  refine (zzindex v0.heap.size 0 m m b0 b1 b2 b3 _ h4m (by omega) (HA.out.2.1.drewN _) HH.out.2.2.2.2.2.1).mono ?_
  rintro e w3 ⟨rfl, q3, rfl⟩
  rw [← HH.out.2.2.2.2.2.2.2.1]
  go_wp2_with fail
  refine (zzindex w1.heap.size 0 4 n a0 a1 a2 a3 _ (by omega) (by omega) (HA.out.1.drewN _) HH.out.2.2.2.2.1).mono ?_
  rintro e w4 ⟨rfl, q4, hq4⟩
  rw [← HH.out.2.2.2.2.2.2.1]
  have b4 : Below v1.heap.size v1 w4 := by rw [hq4]; exact below_drewN (below_drewN (Below.refl _ _) _) _
  have cA := HA.out.1.on b4 za
  have cB := HA.out.2.1.on b4 hzz1
  have bb4 : Below w1.heap.size w1 w4 := HA.out.2.2.trans (b4.mono HA.out.2.2.size)
  clear hq4 b4
  have za4 : w1.heap.size < w4.heap.size := World.block_lt_of_cell? _ _ cA.1
  have zb4 : v0.heap.size < w4.heap.size := World.block_lt_of_cell? _ _ cB.1
  clear za hzz1
  have HC := Lib.hid (And.intro cA (And.intro cB bb4))
  clear cA cB bb4
  have fx0 : (a0 != b0) = false := by rw [bne_eq_false_iff_eq]; exact h0
  have fx1 : (a0 == b0) = true := by rw [beq_iff_eq]; exact h0
  have fx2 : (a1 != b1) = false := by rw [bne_eq_false_iff_eq]; exact h1
  have fx3 : (a1 == b1) = true := by rw [beq_iff_eq]; exact h1
  have fx4 : (a2 != b2) = false := by rw [bne_eq_false_iff_eq]; exact h2
  have fx5 : (a2 == b2) = true := by rw [beq_iff_eq]; exact h2
  have fx6 : (a3 != b3) = true := by rw [bne_iff_ne]; omega
  have fx7 : (a3 == b3) = false := by rw [beq_eq_false_iff_ne]; omega
  have fx8 : IB < IA := by rw [HH.out.2.2.2.2.2.2.1, HH.out.2.2.2.2.2.2.2.1]; unfold idx; omega
  have fx9 : (IA == IB) = false := by rw [beq_eq_false_iff_ne, HH.out.2.2.2.2.2.2.1, HH.out.2.2.2.2.2.2.2.1]; unfold idx; omega
  have fx10 : (IA - IB == a3 - b3) = true := by rw [beq_iff_eq, HH.out.2.2.2.2.2.2.1, HH.out.2.2.2.2.2.2.2.1]; unfold idx; omega
  have hdd : ¬ a3 < b3 := by omega
  clear h0 h1 h2 hd
  have ca0 := HC.out.1.1; have ca1 := HC.out.1.2.1; have ca2 := HC.out.1.2.2.1; have ca3 := HC.out.1.2.2.2
  have cb0 := HC.out.2.1.1; have cb1 := HC.out.2.1.2.1; have cb2 := HC.out.2.1.2.2.1; have cb3 := HC.out.2.1.2.2.2
  clear ca0 ca1 ca2 ca3 cb0 cb1 cb2 cb3
  have nn : ∀ j : Int, j < 4 → j < (n : Int) := fun j h => by omega
  have n0 : (0 : Int) < (n : Int) := by omega
  have n1 : (1 : Int) < (n : Int) := by omega
  have n2 : (2 : Int) < (n : Int) := by omega
  have n3 : (3 : Int) < (n : Int) := by omega
  have k0 : (0 : Int) < (m : Int) := by omega
  have k1 : (1 : Int) < (m : Int) := by omega
  have k2 : (2 : Int) < (m : Int) := by omega
  have k3 : (3 : Int) < (m : Int) := by omega
  clear nn
  go_wp2
  go_loopw [9, 10] (fun lex i wr => ∃ k : Nat, k ≤ 3 ∧ i = .int .i64 k ∧ lex = .int .i64 0 ∧ Below w4.heap.size w4 wr) (fun _ i _ => 5 - (RowKit.intOf i).toNat)
  case atStart => exact ⟨0, Nat.zero_le _, rfl, rfl, Below.refl _ _⟩
  case round =>
    obtain ⟨k, hk, rfl, rfl, hb⟩ := hrel
    have cA := HC.out.1.on hb za4
    have cB := HC.out.2.1.on hb zb4
    obtain ⟨x0, x1, x2, x3⟩ := cA
    obtain ⟨y0, y1, y2, y3⟩ := cB
    have bbr : Below w1.heap.size w1 wr := HC.out.2.2.trans (hb.mono HC.out.2.2.size)
    have HBR := Lib.hid (And.intro bbr hb)
    clear bbr hb
    rcases (show k = 0 ∨ k = 1 ∨ k = 2 ∨ k = 3 from by omega) with rfl | rfl | rfl | rfl
    · go_wp2
      go_quiet (fail)
      go_wp2
      go_roundw
      case rel => exact ⟨1, by omega, by go_num, rfl, below_drewN HBR.out.2 _⟩
      case measure => simp [RowKit.intOf]
    · go_wp2
      go_quiet (fail)
      go_wp2
      go_roundw
      case rel => exact ⟨2, by omega, by go_num, rfl, below_drewN HBR.out.2 _⟩
      case measure => simp [RowKit.intOf]
    · go_wp2
      go_quiet (fail)
      go_wp2
      go_roundw
      case rel => exact ⟨3, by omega, by go_num, rfl, below_drewN HBR.out.2 _⟩
      case measure => simp [RowKit.intOf]
    · go_wp2
      go_quiet (fail)
      go_wp2
      go_quiet (fail)
      go_wp2
      go_quiet (fail)
      go_wp2
      go_quiet (fail)
      go_wp2
      go_ret
      first | exact ⟨rfl, below_drewN HBR.out.1 _⟩ | exact ⟨rfl, below_drewN (below_drewN HBR.out.1 _) _⟩ | exact ⟨rfl, below_drewN (below_drewN (below_drewN HBR.out.1 _) _) _⟩

set_option maxRecDepth 100000 in
set_option maxHeartbeats 12800000 in
theorem ord_4e (ba oa bb ob n cap m cap2 : Nat) (la lb : List Int) (a0 a1 a2 a3 b0 b1 b2 b3 : Int) (w : World) (hn : n ≤ 1048576) (h4 : 4 ≤ n) (hm : m ≤ 1048576) (h4m : 4 ≤ m) (hsum : n + m ≤ 1048576)
    (hla : la.length = n) (hlb : lb.length = m) (hca : ∀ j (h : j < la.length), w.cell? ((⟨ba, oa, none⟩ : Addr).add j) = some (.int .u8 la[j])) (hcb : ∀ j (h : j < lb.length), w.cell? ((⟨bb, ob, none⟩ : Addr).add j) = some (.int .u8 lb[j]))
    (e0 : la[0]? = some a0) (e1 : la[1]? = some a1) (e2 : la[2]? = some a2) (e3 : la[3]? = some a3) (f0 : lb[0]? = some b0) (f1 : lb[1]? = some b1) (f2 : lb[2]? = some b2) (f3 : lb[3]? = some b3)
    (haa : At4 w ba oa a0 a1 a2 a3) (hbb : At4 w bb ob b0 b1 b2 b3) (ca : Code4 a0 a1 a2 a3) (cbd : Code4 b0 b1 b2 b3) (h0 : a0 = b0) (h1 : a1 = b1) (h2 : a2 = b2) (h3 : a3 = b3) :
    Calls Try.prog 4 #[.slice (some ⟨ba, oa, none⟩) n cap, .slice (some ⟨bb, ob, none⟩) m cap2] w fun e w' => e = .returned (.bool true) ∧ Below w.heap.size w w' := by
  have hn22 := fun (w : World) a n c => run_neq_slice_nil_any (P := Try.prog) w 22 5 a n c 0 0 Try.underlying22
  obtain ⟨i5, hi5, hy0, hy1, hy2⟩ := info_parts infoByte
  have ga : ∀ (W : World) (g : Nat), (∀ k (h : k < la.length), W.cell? ⟨g, k, none⟩ = some (.int .u8 la[k])) → At4 W g 0 a0 a1 a2 a3 := fun W g h => at4_of_list h4 hla e0 e1 e2 e3 h
  have gb : ∀ (W : World) (g : Nat), (∀ k (h : k < lb.length), W.cell? ⟨g, k, none⟩ = some (.int .u8 lb[k])) → At4 W g 0 b0 b1 b2 b3 := fun W g h => at4_of_list h4m hlb f0 f1 f2 f3 h
  have hia := idx_bounds a0 a1 a2 a3 ca
  have hib := idx_bounds b0 b1 b2 b3 cbd
  obtain ⟨IA, hIA⟩ : ∃ I, I = idx a0 a1 a2 a3 := ⟨_, rfl⟩
  obtain ⟨IB, hIB⟩ : ∃ I, I = idx b0 b1 b2 b3 := ⟨_, rfl⟩
  rw [← hIA] at hia
  rw [← hIB] at hib
  obtain ⟨hA0, hA1⟩ := hia
  obtain ⟨hB0, hB1⟩ := hib
  have HH := Lib.hid (And.intro hca (And.intro hcb (And.intro ga (And.intro gb (And.intro ca (And.intro cbd (And.intro hIA (And.intro hIB (And.intro haa hbb)))))))))
  obtain ⟨⟨p1, p2⟩, ⟨p3, p4⟩, ⟨p5, p6⟩, ⟨p7, p8⟩⟩ := ca
  obtain ⟨⟨r1, r2⟩, ⟨r3, r4⟩, ⟨r5, r6⟩, ⟨r7, r8⟩⟩ := cbd
  clear hca hcb ga gb e0 e1 e2 e3 f0 f1 f2 f3 hIA hIB haa hbb
  go_enter Try.func4, Try.ntmps4
  go_wp2_with fail
  refine (zz_small9 _ _ n cap m cap2 w hsum).mono ?_
  rintro e w0 ⟨rfl, rfl⟩
  go_wp2_with fail
  refine (valid_yes ba oa n cap a0 a1 a2 a3 w0 h4 (by omega) HH.out.2.2.2.2.2.2.2.2.1 HH.out.2.2.2.2.1).mono ?_
  rintro e w1' ⟨rfl, rfl⟩
  go_wp2_with fail
  refine (valid_yes bb ob m cap2 b0 b1 b2 b3 w1' h4m (by omega) HH.out.2.2.2.2.2.2.2.2.2 HH.out.2.2.2.2.2.1).mono ?_
  rintro e w1 ⟨rfl, rfl⟩
  have bz : Below w1.heap.size w1 w1 := Below.refl _ _
  go_wp2_with (at_make; refine wpList_make_full _ rfl _ _ 22 rfl w1.heap.size 5 i5 (.int .u8 0) 1 Try.underlying22 hi5 hy0 hy1 .i64 .i64 _ _ n rfl rfl rfl rfl (by rw [hy2]; omega) (by unfold maxLen; omega) (Nat.le_refl _) ?_)
  intro m0 hown0 hgrow0
  have bm0 : Below w1.heap.size w1 m0 := (Below.refl _ _).grown hgrow0 (Nat.le_refl _) (fun k hk => by cases hk)
  obtain ⟨cur0, hcur0, hsz0⟩ := made_block hown0
  have bbm0 : Below w1.heap.size w1 m0 := bz.trans (bm0.mono bz.size)
  have hsrc0 := cb_src la ⟨ba, oa, none⟩ w1 m0 bbm0 HH.out.1
  have iv0 := HH.out.2.2.1 _ _ (copied la hla hcur0 hsz0)
  have bc0 : Below w1.heap.size w1 (m0.setRow w1.heap.size (cb la ++ cur0.toList.drop (cb la).length).toArray) := below_setRow bm0 (Nat.le_refl _) _
  have hzz0 : w1.heap.size < (m0.setRow w1.heap.size (cb la ++ cur0.toList.drop (cb la).length).toArray).heap.size := World.block_lt_of_cell? _ _ iv0.1
  have HI0 := Lib.hid (And.intro iv0 (And.intro bc0 (And.intro hsrc0 (And.intro hcur0 (And.intro hsz0 hzz0)))))
  clear iv0 bc0 hsrc0 hcur0 hsz0 hown0 hgrow0 bm0 hzz0 bbm0
  go_wp2_with (refine wpList_copy_own rfl (.tmp 42) (.tmp 43) 22 22 rfl 5 Try.underlying22 (by kernel_rfl) w1.heap.size 0 n n ⟨ba, oa, none⟩ n cap rfl rfl cur0 5 HI0.out.2.2.2.1 (cb la) (by rw [cb_length, hla]; simp) HI0.out.2.2.1 (by rw [cb_length, hla, HI0.out.2.2.2.2.1]; omega) (cb_one _) ?_; refine Hid.out ?_)
  refine Lib.hid ?_
  obtain ⟨v0, hv0⟩ : ∃ v, v = m0.setRow w1.heap.size (cb la ++ cur0.toList.drop (cb la).length).toArray := ⟨_, rfl⟩
  rw [← hv0]
  have iv0 := HI0.out.1
  have bc0 := HI0.out.2.1
  have hzz0 := HI0.out.2.2.2.2.2
  rw [← hv0] at iv0 bc0 hzz0
  clear hv0 HI0
  have bz0 : Below w1.heap.size w1 v0 := bc0
  go_wp2_with (at_make; refine wpList_make_full _ rfl _ _ 22 rfl v0.heap.size 5 i5 (.int .u8 0) 1 Try.underlying22 hi5 hy0 hy1 .i64 .i64 _ _ m rfl rfl rfl rfl (by rw [hy2]; omega) (by unfold maxLen; omega) (Nat.le_refl _) ?_)
  intro m1 hown1 hgrow1
  have bm1 : Below v0.heap.size v0 m1 := (Below.refl _ _).grown hgrow1 (Nat.le_refl _) (fun k hk => by cases hk)
  obtain ⟨cur1, hcur1, hsz1⟩ := made_block hown1
  have bbm1 : Below w1.heap.size w1 m1 := bz0.trans (bm1.mono bz0.size)
  have hsrc1 := cb_src lb ⟨bb, ob, none⟩ w1 m1 bbm1 HH.out.2.1
  have iv1 := HH.out.2.2.2.1 _ _ (copied lb hlb hcur1 hsz1)
  have bc1 : Below v0.heap.size v0 (m1.setRow v0.heap.size (cb lb ++ cur1.toList.drop (cb lb).length).toArray) := below_setRow bm1 (Nat.le_refl _) _
  have hzz1 : v0.heap.size < (m1.setRow v0.heap.size (cb lb ++ cur1.toList.drop (cb lb).length).toArray).heap.size := World.block_lt_of_cell? _ _ iv1.1
  have HI1 := Lib.hid (And.intro iv1 (And.intro bc1 (And.intro hsrc1 (And.intro hcur1 (And.intro hsz1 hzz1)))))
  clear iv1 bc1 hsrc1 hcur1 hsz1 hown1 hgrow1 bm1 hzz1 bbm1
  go_wp2_with (refine wpList_copy_own rfl (.tmp 51) (.tmp 52) 22 22 rfl 5 Try.underlying22 (by kernel_rfl) v0.heap.size 0 m m ⟨bb, ob, none⟩ m cap2 rfl rfl cur1 5 HI1.out.2.2.2.1 (cb lb) (by rw [cb_length, hlb]; simp) HI1.out.2.2.1 (by rw [cb_length, hlb, HI1.out.2.2.2.2.1]; omega) (cb_one _) ?_; refine Hid.out ?_)
  refine Lib.hid ?_
  obtain ⟨v1, hv1⟩ : ∃ v, v = m1.setRow v0.heap.size (cb lb ++ cur1.toList.drop (cb lb).length).toArray := ⟨_, rfl⟩
  rw [← hv1]
  have iv1 := HI1.out.1
  have bc1 := HI1.out.2.1
  have hzz1 := HI1.out.2.2.2.2.2
  rw [← hv1] at iv1 bc1 hzz1
  clear hv1 HI1
  have iva := iv0.on bc1 hzz0
  have bz1 : Below w1.heap.size w1 v1 := bz0.trans (bc1.mono bz0.size)
  have za : w1.heap.size < v1.heap.size := by have := bc1.size; omega
  have HA := Lib.hid (And.intro iva (And.intro iv1 bz1))
  clear iv0 bc0 hzz0 bz0 bz iva bc1 bz1
  clear iv1
  go_wp2_with fail
  refine (zzindex w1.heap.size 0 n n a0 a1 a2 a3 _ h4 (by omega) HA.out.1 HH.out.2.2.2.2.1).mono ?_
  rintro e w2 ⟨rfl, q2, rfl⟩
  rw [← HH.out.2.2.2.2.2.2.1]
  go_wp2_with fail
  refine (zzindex v0.heap.size 0 m m b0 b1 b2 b3 _ h4m (by omega) (HA.out.2.1.drewN _) HH.out.2.2.2.2.2.1).mono ?_
  rintro e w3 ⟨rfl, q3, rfl⟩
  rw [← HH.out.2.2.2.2.2.2.2.1]
  go_wp2_with fail
  refine (zzindex w1.heap.size 0 4 n a0 a1 a2 a3 _ (by omega) (by omega) (HA.out.1.drewN _) HH.out.2.2.2.2.1).mono ?_
  rintro e w4 ⟨rfl, q4, hq4⟩
  rw [← HH.out.2.2.2.2.2.2.1]
  have b4 : Below v1.heap.size v1 w4 := by rw [hq4]; exact below_drewN (below_drewN (Below.refl _ _) _) _
  have cA := HA.out.1.on b4 za
  have cB := HA.out.2.1.on b4 hzz1
  have bb4 : Below w1.heap.size w1 w4 := HA.out.2.2.trans (b4.mono HA.out.2.2.size)
  clear hq4 b4
  have za4 : w1.heap.size < w4.heap.size := World.block_lt_of_cell? _ _ cA.1
  have zb4 : v0.heap.size < w4.heap.size := World.block_lt_of_cell? _ _ cB.1
  clear za hzz1
  have HC := Lib.hid (And.intro cA (And.intro cB bb4))
  clear cA cB bb4
  have fx0 : (a0 != b0) = false := by rw [bne_eq_false_iff_eq]; exact h0
  have fx1 : (a0 == b0) = true := by rw [beq_iff_eq]; exact h0
  have fx2 : (a1 != b1) = false := by rw [bne_eq_false_iff_eq]; exact h1
  have fx3 : (a1 == b1) = true := by rw [beq_iff_eq]; exact h1
  have fx4 : (a2 != b2) = false := by rw [bne_eq_false_iff_eq]; exact h2
  have fx5 : (a2 == b2) = true := by rw [beq_iff_eq]; exact h2
  have fx6 : (a3 != b3) = false := by rw [bne_eq_false_iff_eq]; exact h3
  have fx7 : (a3 == b3) = true := by rw [beq_iff_eq]; exact h3
  have fx8 : ¬ IA < IB := by rw [HH.out.2.2.2.2.2.2.1, HH.out.2.2.2.2.2.2.2.1]; unfold idx; omega
  have fx9 : (IA == IB) = true := by rw [beq_iff_eq, HH.out.2.2.2.2.2.2.1, HH.out.2.2.2.2.2.2.2.1]; unfold idx; omega
  have fx10 : (IA - IB == a3 - b3) = true := by rw [beq_iff_eq, HH.out.2.2.2.2.2.2.1, HH.out.2.2.2.2.2.2.2.1]; unfold idx; omega
  clear h0 h1 h2 h3
  have ca0 := HC.out.1.1; have ca1 := HC.out.1.2.1; have ca2 := HC.out.1.2.2.1; have ca3 := HC.out.1.2.2.2
  have cb0 := HC.out.2.1.1; have cb1 := HC.out.2.1.2.1; have cb2 := HC.out.2.1.2.2.1; have cb3 := HC.out.2.1.2.2.2
  clear ca0 ca1 ca2 ca3 cb0 cb1 cb2 cb3
  have nn : ∀ j : Int, j < 4 → j < (n : Int) := fun j h => by omega
  have n0 : (0 : Int) < (n : Int) := by omega
  have n1 : (1 : Int) < (n : Int) := by omega
  have n2 : (2 : Int) < (n : Int) := by omega
  have n3 : (3 : Int) < (n : Int) := by omega
  have k0 : (0 : Int) < (m : Int) := by omega
  have k1 : (1 : Int) < (m : Int) := by omega
  have k2 : (2 : Int) < (m : Int) := by omega
  have k3 : (3 : Int) < (m : Int) := by omega
  clear nn
  go_wp2
  go_loopw [9, 10] (fun lex i wr => ∃ k : Nat, k ≤ 4 ∧ i = .int .i64 k ∧ lex = .int .i64 0 ∧ Below w4.heap.size w4 wr) (fun _ i _ => 5 - (RowKit.intOf i).toNat)
  case atStart => exact ⟨0, Nat.zero_le _, rfl, rfl, Below.refl _ _⟩
  case round =>
    obtain ⟨k, hk, rfl, rfl, hb⟩ := hrel
    have cA := HC.out.1.on hb za4
    have cB := HC.out.2.1.on hb zb4
    obtain ⟨x0, x1, x2, x3⟩ := cA
    obtain ⟨y0, y1, y2, y3⟩ := cB
    have bbr : Below w1.heap.size w1 wr := HC.out.2.2.trans (hb.mono HC.out.2.2.size)
    have HBR := Lib.hid (And.intro bbr hb)
    clear bbr hb
    rcases (show k = 0 ∨ k = 1 ∨ k = 2 ∨ k = 3 ∨ k = 4 from by omega) with rfl | rfl | rfl | rfl | rfl
    · go_wp2
      go_quiet (fail)
      go_wp2
      go_roundw
      case rel => exact ⟨1, by omega, by go_num, rfl, below_drewN HBR.out.2 _⟩
      case measure => simp [RowKit.intOf]
    · go_wp2
      go_quiet (fail)
      go_wp2
      go_roundw
      case rel => exact ⟨2, by omega, by go_num, rfl, below_drewN HBR.out.2 _⟩
      case measure => simp [RowKit.intOf]
    · go_wp2
      go_quiet (fail)
      go_wp2
      go_roundw
      case rel => exact ⟨3, by omega, by go_num, rfl, below_drewN HBR.out.2 _⟩
      case measure => simp [RowKit.intOf]
    · go_wp2
      go_quiet (fail)
      go_wp2
      go_roundw
      case rel => exact ⟨4, by omega, by go_num, rfl, below_drewN HBR.out.2 _⟩
      case measure => simp [RowKit.intOf]
    · go_wp2
      go_quiet (fail)
      go_wp2
      go_quiet (fail)
      go_wp2
      go_ret
      first | exact ⟨rfl, below_drewN HBR.out.1 _⟩ | exact ⟨rfl, below_drewN (below_drewN HBR.out.1 _) _⟩ | exact ⟨rfl, below_drewN (below_drewN (below_drewN HBR.out.1 _) _) _⟩
end Go.Proofs.Qxb6615892a
