/-
  THE LAW 'FnAppendIntegerKindsAgree' (seat b6614854aD): its walk out of contracts.
-/
import Derived.Test.Qxb6614854aDoorLaw1
import Derived.Test.Qxb6614854aDoorApp2
import Derived.Test.Qxb6614854aDoorOpen
namespace Go.Proofs.Qxb6614854aDoor
open Go.RowKit Go.Lib
set_option linter.unusedVariables false

theorem zzBytes4 (a : Option Addr) (n c : Nat) (x1 x2 x3 x4 x5 x6 x7 x8 : Value) (w : World) (hn : n ≤ 1048576) :
    Calls Tryd.prog 17 #[.slice a n c, x1, x2, x3, x4, x5, x6, x7, x8] w fun e w' => e = .returned (.bool true) ∧ w' = w := by
  have h1 : ¬ (1048576 : Int) < (n : Int) := by omega
  go_enter Tryd.func17, Tryd.ntmps17
  go_wp2
  go_ret
  exact ⟨rfl, rfl⟩
theorem zzBytes4_long (a : Option Addr) (n c : Nat) (x1 x2 x3 x4 x5 x6 x7 x8 : Value) (w : World) (hn : 1048576 < n) :
    Calls Tryd.prog 17 #[.slice a n c, x1, x2, x3, x4, x5, x6, x7, x8] w fun e w' => e = .returned (.bool false) ∧ w' = w := by
  have h1 : (1048576 : Int) < (n : Int) := by omega
  go_enter Tryd.func17, Tryd.ntmps17
  go_wp2
  go_ret
  exact ⟨rfl, rfl⟩
set_option maxRecDepth 100000 in
theorem law2_long (a : Option Addr) (n c : Nat) (x1 x2 x3 x4 x5 x6 x7 x8 : Value) (w : World) (hn : 1048576 < n) :
    Calls Tryd.prog 4 #[.slice a n c, x1, x2, x3, x4, x5, x6, x7, x8] w fun e w' => e = .returned (.bool true) ∧ w' = w := by
  go_enter Tryd.func4, Tryd.ntmps4
  go_wp2_with (go_at_call 17; refine (zzBytes4_long a n c _ _ _ _ _ _ _ _ _ hn).mono ?_; rintro e w' ⟨rfl, rfl⟩)
  go_ret
  exact ⟨rfl, rfl⟩

/-- The shape of a row without spare room, nil or not. -/
theorem Cp.form {w : World} {v : Value} {l : List Int} (h : Cp w v l) : ∃ a : Option Addr, v = .slice a l.length l.length ∧ ∀ k (h : k < l.length), ∃ g, a = some ⟨g, 0, none⟩ ∧ g < w.heap.size ∧ w.cell? ⟨g, k, none⟩ = some (.int .u8 l[k]) := by
  rcases h with ⟨rfl, rfl⟩ | ⟨g, rfl, hg, hc⟩
  · exact ⟨none, rfl, fun k h => by simp at h⟩
  · exact ⟨_, rfl, fun k h => ⟨g, rfl, hg, hc k h⟩⟩
theorem Vw.full {w : World} {v : Value} {l : List Int} (h : Vw w v l) (hl : 0 < l.length) : ∃ g c : Nat, v = .slice (some ⟨g, 0, none⟩) l.length c ∧ g < w.heap.size ∧ ∀ k (h : k < l.length), w.cell? ⟨g, k, none⟩ = some (.int .u8 l[k]) := by
  rcases h with ⟨_, h⟩ | ⟨g, c, rfl, _, hg, hc⟩
  · rw [h] at hl; simp at hl
  · exact ⟨g, c, rfl, hg, hc⟩

theorem Cp.of_own {w : World} {B n : Nat} {l : List Int} (ho : w.ownsRow B 5 1 (.slice (some ⟨B, 0, none⟩) n n) n (cs l)) (hl : l.length = n) : Cp w (.slice (some ⟨B, 0, none⟩) n n) l := by
  refine .inr ⟨B, by rw [hl], ?_, fun j hj => ?_⟩
  · rcases ho.2 with ⟨h', _⟩ | ⟨g', cap', cur, h', _, hh, _⟩
    · simp at h'
    · simp only [Value.slice.injEq, Option.some.injEq, Addr.mk.injEq, and_true, true_and] at h'
      obtain ⟨rfl, rfl⟩ := h'
      rcases Nat.lt_or_ge B w.heap.size with h1 | h1
      · exact h1
      · rw [Array.getElem?_eq_none h1] at hh; cases hh
  · rw [ho.cellAt j (by omega), cs_get _ j hj]

theorem os_get_neg (l : List Int) (u nd k : Nat) (hl : l.length = nd) (h : k < (txt false u).length) (h2 : nd + 1 + k < (l ++ txt true u).length) : (l ++ txt true u)[nd + 1 + k] = (txt false u)[k] := by
  have e : (l ++ txt true u)[nd + 1 + k]? = (txt false u)[k]? := by
    rw [List.getElem?_append_right (by omega), show nd + 1 + k - l.length = k + 1 by omega]
    simp [txt]
  rw [List.getElem?_eq_getElem h2, List.getElem?_eq_getElem h] at e
  exact Option.some.inj e
theorem os_get_pos (l : List Int) (u nd k : Nat) (hl : l.length = nd) (h : k < (txt false u).length) (h2 : nd + 0 + k < (l ++ txt false u).length) : (l ++ txt false u)[nd + 0 + k] = (txt false u)[k] := by
  have e : (l ++ txt false u)[nd + 0 + k]? = (txt false u)[k]? := by
    rw [List.getElem?_append_right (by omega), show nd + 0 + k - l.length = k by omega]
  rw [List.getElem?_eq_getElem h2, List.getElem?_eq_getElem h] at e
  exact Option.some.inj e

/-- cloneBytes at the argument: nil stays nil. -/
theorem clone_arg2 (a : Option Addr) (len cap : Nat) (zs : List Int) (w : World) (h : IsRow .u8 w a len cap zs) (hn : len ≤ 1048576) :
    ∃ l : List Int, l.length = len ∧ ∀ w1, Below w.heap.size w w1 → Calls Tryd.prog 6 #[.slice a len cap] w1 fun e w' => ∃ a' : Option Addr, e = .returned (.slice a' len len) ∧ a'.isNone = a.isNone ∧ Cp w' (.slice a' len len) l ∧ Below w1.heap.size w1 w' := by
  cases a with
  | none =>
    rcases h with ⟨_, rfl, rfl, rfl⟩ | ⟨x, h, _⟩
    · refine ⟨[], rfl, fun w1 _ => (clone_nil w1).mono ?_⟩
      rintro e w' ⟨rfl, rfl⟩
      exact ⟨none, rfl, rfl, Cp.nil _, Below.refl _ _⟩
    · cases h
  | some x =>
    rcases h with ⟨h, _⟩ | ⟨x', hx, hle, hm, hz, hcell, hw⟩
    · cases h
    cases hx
    refine ⟨zs.take len, by rw [List.length_take]; omega, fun w1 hb => ?_⟩
    have hc1 : ∀ j (h : j < len), w1.cell? (x.add j) = some (.int .u8 (zs[j]'(by omega))) := by
      intro j hj
      have h0 := hcell j (by omega)
      have hlt := World.block_lt_of_cell? _ _ h0
      rw [hb.cell (p := x.add j) hlt, h0]
      simp [List.getD, show j < zs.length by omega]
    have hlt : 0 < len → x.block < w1.heap.size := by
      intro h0
      have := World.block_lt_of_cell? _ _ (hc1 0 h0)
      simpa [Addr.add] using this
    refine (clone_some x len cap zs w1 (by omega) (by omega) hc1 hlt).mono ?_
    rintro e w' ⟨rfl, ho, hb'⟩
    exact ⟨_, rfl, rfl, Cp.of_own ho (by rw [List.length_take]; omega), hb'⟩

set_option maxRecDepth 100000 in
set_option maxHeartbeats 8000000 in
theorem law2_pos (l : List Int) (x1 x2 x3 x4 : Int) (x5 x6 x7 : Nat) (f : Value) (ad : Option Addr) (nd cd : Nat) (w : World)
    (lx1 : -128 ≤ x1) (ux1 : x1 ≤ 127) (lx2 : -32768 ≤ x2) (ux2 : x2 ≤ 32767) (lx3 : -2147483648 ≤ x3) (ux3 : x3 ≤ 2147483647) (lx4 : -9223372036854775808 ≤ x4) (ux4 : x4 ≤ 9223372036854775807) (ux5 : x5 ≤ 255) (ux6 : x6 ≤ 65535) (ux7 : x7 ≤ 4294967295)
    (hn : nd ≤ 1048576) (hl : l.length = nd) (ht : Tab w) (hsg : ¬ x4 < 0)
    (hclone : ∀ w1, Below w.heap.size w w1 → Calls Tryd.prog 6 #[.slice ad nd cd] w1 fun e w' => ∃ a' : Option Addr, e = .returned (.slice a' nd nd) ∧ a'.isNone = ad.isNone ∧ Cp w' (.slice a' nd nd) l ∧ Below w1.heap.size w1 w') :
    Calls Tryd.prog 4 #[.slice ad nd cd, .int .i8 x1, .int .i16 x2, .int .i32 x3, .int .i64 x4, .int .u8 (x5 : Int), .int .u16 (x6 : Int), .int .u32 (x7 : Int), f] w fun e w' => e = .returned (.bool true) ∧ Below w.heap.size w w' := by
  have HH := Lib.hid (And.intro hclone ht)
  clear hclone ht
  have hnil := fun (w : World) a n c => Lib.run_eql_slice_nil (P := Tryd.prog) w 22 5 a n c 0 0 Tryd.underlying22
  have hgt : ¬ (1048576 : Int) < (nd : Int) := by omega
  go_enter Tryd.func4, Tryd.ntmps4
  go_wp2_with fail
  refine (zzBytes4 ad nd cd _ _ _ _ _ _ _ _ w hn).mono ?_
  rintro e w0 ⟨rfl, rfl⟩
  go_wp2_with fail
  refine (HH.out.1 _ (Below.refl _ _)).mono ?_
  rintro e w1 ⟨aw, rfl, haw, cw, b1⟩
  go_wp2_with fail
  refine (HH.out.1 _ b1).mono ?_
  rintro e w2 ⟨av, rfl, hav, cd2, b2⟩
  have cw2 := cw.on b2
  have bb : Below w0.heap.size w0 w2 := below_on b1 b1.size b2
  have tt2 : Tab w2 := HH.out.2.on bb
  have HN := Lib.hid (And.intro haw hav)
  clear cw b1 b2 haw hav
  -- i8
  have tl : (l ++ txt (decide (x1 < 0)) x1.natAbs).length ≤ 4194304 := by have := txt_len (decide (x1 < 0)) x1.natAbs (by omega); rw [List.length_append]; omega
  go_wp2_with fail
  refine (zzc_i8 appInt (.slice av nd nd) l x1 _ (by omega) (by omega) cd2 (by omega) tt2).mono ?_
  rintro e p0a ⟨vo, rfl, vo1, ba⟩
  go_wp2_with fail
  refine (clone_vw vo _ _ tl vo1).mono ?_
  rintro e p0b ⟨vc, rfl, vc1, bc, -⟩
  have bac : Below w2.heap.size w2 p0b := below_on ba ba.size bc
  go_wp2_with fail
  refine (zzc_i64 appInt (.slice av nd nd) l x1 _ (by omega) (by omega) (cd2.on bac) (by omega) (tt2.on bac)).mono ?_
  rintro e p0c ⟨va, rfl, va1, bd⟩
  have vc2 := vc1.vw.on bd
  have bad : Below w2.heap.size w2 p0c := below_on bac bac.size bd
  go_wp2_with fail
  refine (agree_any vc va _ _ (by omega) vc2 va1).mono ?_
  rintro e p0d ⟨rfl, be⟩
  have bz : Below w2.heap.size w2 p0d := below_on bad bad.size be
  have bb' := below_on bb bb.size bz
  have cd2' := cd2.on bz
  have cw2' := cw2.on bz
  have tt2' := tt2.on bz
  clear tl vo1 ba vc1 bc bac va1 bd vc2 bad be bz bb cd2 cw2 tt2
  have bb := bb'
  have cd2 := cd2'
  have cw2 := cw2'
  have tt2 := tt2'
  clear bb' cd2' cw2' tt2'
  -- i16
  have tl : (l ++ txt (decide (x2 < 0)) x2.natAbs).length ≤ 4194304 := by have := txt_len (decide (x2 < 0)) x2.natAbs (by omega); rw [List.length_append]; omega
  go_wp2_with fail
  refine (zzc_i16 appInt (.slice av nd nd) l x2 _ (by omega) (by omega) cd2 (by omega) tt2).mono ?_
  rintro e p1a ⟨vo, rfl, vo1, ba⟩
  go_wp2_with fail
  refine (clone_vw vo _ _ tl vo1).mono ?_
  rintro e p1b ⟨vc, rfl, vc1, bc, -⟩
  have bac : Below p0d.heap.size p0d p1b := below_on ba ba.size bc
  go_wp2_with fail
  refine (zzc_i64 appInt (.slice av nd nd) l x2 _ (by omega) (by omega) (cd2.on bac) (by omega) (tt2.on bac)).mono ?_
  rintro e p1c ⟨va, rfl, va1, bd⟩
  have vc2 := vc1.vw.on bd
  have bad : Below p0d.heap.size p0d p1c := below_on bac bac.size bd
  go_wp2_with fail
  refine (agree_any vc va _ _ (by omega) vc2 va1).mono ?_
  rintro e p1d ⟨rfl, be⟩
  have bz : Below p0d.heap.size p0d p1d := below_on bad bad.size be
  have bb' := below_on bb bb.size bz
  have cd2' := cd2.on bz
  have cw2' := cw2.on bz
  have tt2' := tt2.on bz
  clear tl vo1 ba vc1 bc bac va1 bd vc2 bad be bz bb cd2 cw2 tt2
  have bb := bb'
  have cd2 := cd2'
  have cw2 := cw2'
  have tt2 := tt2'
  clear bb' cd2' cw2' tt2'
  -- i32
  have tl : (l ++ txt (decide (x3 < 0)) x3.natAbs).length ≤ 4194304 := by have := txt_len (decide (x3 < 0)) x3.natAbs (by omega); rw [List.length_append]; omega
  go_wp2_with fail
  refine (zzc_i32 appInt (.slice av nd nd) l x3 _ (by omega) (by omega) cd2 (by omega) tt2).mono ?_
  rintro e p2a ⟨vo, rfl, vo1, ba⟩
  go_wp2_with fail
  refine (clone_vw vo _ _ tl vo1).mono ?_
  rintro e p2b ⟨vc, rfl, vc1, bc, -⟩
  have bac : Below p1d.heap.size p1d p2b := below_on ba ba.size bc
  go_wp2_with fail
  refine (zzc_i64 appInt (.slice av nd nd) l x3 _ (by omega) (by omega) (cd2.on bac) (by omega) (tt2.on bac)).mono ?_
  rintro e p2c ⟨va, rfl, va1, bd⟩
  have vc2 := vc1.vw.on bd
  have bad : Below p1d.heap.size p1d p2c := below_on bac bac.size bd
  go_wp2_with fail
  refine (agree_any vc va _ _ (by omega) vc2 va1).mono ?_
  rintro e p2d ⟨rfl, be⟩
  have bz : Below p1d.heap.size p1d p2d := below_on bad bad.size be
  have bb' := below_on bb bb.size bz
  have cd2' := cd2.on bz
  have cw2' := cw2.on bz
  have tt2' := tt2.on bz
  clear tl vo1 ba vc1 bc bac va1 bd vc2 bad be bz bb cd2 cw2 tt2
  have bb := bb'
  have cd2 := cd2'
  have cw2 := cw2'
  have tt2 := tt2'
  clear bb' cd2' cw2' tt2'
  -- u8
  have tl : (l ++ txt false x5).length ≤ 4194304 := by have := txt_len false x5 (by omega); rw [List.length_append]; omega
  go_wp2_with fail
  refine (zzc_u8 appUint (.slice av nd nd) l x5 _ (by omega) cd2 (by omega) tt2).mono ?_
  rintro e p3a ⟨vo, rfl, vo1, ba⟩
  go_wp2_with fail
  refine (clone_vw vo _ _ tl vo1).mono ?_
  rintro e p3b ⟨vc, rfl, vc1, bc, -⟩
  have bac : Below p2d.heap.size p2d p3b := below_on ba ba.size bc
  go_wp2_with fail
  refine (zzc_u64 appUint (.slice av nd nd) l x5 _ (by omega) (cd2.on bac) (by omega) (tt2.on bac)).mono ?_
  rintro e p3c ⟨va, rfl, va1, bd⟩
  have vc2 := vc1.vw.on bd
  have bad : Below p2d.heap.size p2d p3c := below_on bac bac.size bd
  go_wp2_with fail
  refine (agree_any vc va _ _ (by omega) vc2 va1).mono ?_
  rintro e p3d ⟨rfl, be⟩
  have bz : Below p2d.heap.size p2d p3d := below_on bad bad.size be
  have bb' := below_on bb bb.size bz
  have cd2' := cd2.on bz
  have cw2' := cw2.on bz
  have tt2' := tt2.on bz
  clear tl vo1 ba vc1 bc bac va1 bd vc2 bad be bz bb cd2 cw2 tt2
  have bb := bb'
  have cd2 := cd2'
  have cw2 := cw2'
  have tt2 := tt2'
  clear bb' cd2' cw2' tt2'
  -- u16
  have tl : (l ++ txt false x6).length ≤ 4194304 := by have := txt_len false x6 (by omega); rw [List.length_append]; omega
  go_wp2_with fail
  refine (zzc_u16 appUint (.slice av nd nd) l x6 _ (by omega) cd2 (by omega) tt2).mono ?_
  rintro e p4a ⟨vo, rfl, vo1, ba⟩
  go_wp2_with fail
  refine (clone_vw vo _ _ tl vo1).mono ?_
  rintro e p4b ⟨vc, rfl, vc1, bc, -⟩
  have bac : Below p3d.heap.size p3d p4b := below_on ba ba.size bc
  go_wp2_with fail
  refine (zzc_u64 appUint (.slice av nd nd) l x6 _ (by omega) (cd2.on bac) (by omega) (tt2.on bac)).mono ?_
  rintro e p4c ⟨va, rfl, va1, bd⟩
  have vc2 := vc1.vw.on bd
  have bad : Below p3d.heap.size p3d p4c := below_on bac bac.size bd
  go_wp2_with fail
  refine (agree_any vc va _ _ (by omega) vc2 va1).mono ?_
  rintro e p4d ⟨rfl, be⟩
  have bz : Below p3d.heap.size p3d p4d := below_on bad bad.size be
  have bb' := below_on bb bb.size bz
  have cd2' := cd2.on bz
  have cw2' := cw2.on bz
  have tt2' := tt2.on bz
  clear tl vo1 ba vc1 bc bac va1 bd vc2 bad be bz bb cd2 cw2 tt2
  have bb := bb'
  have cd2 := cd2'
  have cw2 := cw2'
  have tt2 := tt2'
  clear bb' cd2' cw2' tt2'
  -- u32
  have tl : (l ++ txt false x7).length ≤ 4194304 := by have := txt_len false x7 (by omega); rw [List.length_append]; omega
  go_wp2_with fail
  refine (zzc_u32 appUint (.slice av nd nd) l x7 _ (by omega) cd2 (by omega) tt2).mono ?_
  rintro e p5a ⟨vo, rfl, vo1, ba⟩
  go_wp2_with fail
  refine (clone_vw vo _ _ tl vo1).mono ?_
  rintro e p5b ⟨vc, rfl, vc1, bc, -⟩
  have bac : Below p4d.heap.size p4d p5b := below_on ba ba.size bc
  go_wp2_with fail
  refine (zzc_u64 appUint (.slice av nd nd) l x7 _ (by omega) (cd2.on bac) (by omega) (tt2.on bac)).mono ?_
  rintro e p5c ⟨va, rfl, va1, bd⟩
  have vc2 := vc1.vw.on bd
  have bad : Below p4d.heap.size p4d p5c := below_on bac bac.size bd
  go_wp2_with fail
  refine (agree_any vc va _ _ (by omega) vc2 va1).mono ?_
  rintro e p5d ⟨rfl, be⟩
  have bz : Below p4d.heap.size p4d p5d := below_on bad bad.size be
  have bb' := below_on bb bb.size bz
  have cd2' := cd2.on bz
  have cw2' := cw2.on bz
  have tt2' := tt2.on bz
  clear tl vo1 ba vc1 bc bac va1 bd vc2 bad be bz bb cd2 cw2 tt2
  have bb := bb'
  have cd2 := cd2'
  have cw2 := cw2'
  have tt2 := tt2'
  clear bb' cd2' cw2' tt2'
  -- int64 against uint64
  have hdc : decide (x4 < 0) = false := by exact decide_eq_false (by omega)
  have tl : (l ++ txt (decide (x4 < 0)) x4.natAbs).length ≤ 4194304 := by have := txt_len (decide (x4 < 0)) x4.natAbs (by omega); rw [List.length_append]; omega
  have HD := Lib.hid hdc
  clear hdc
  go_wp2_with fail
  refine (zzc_i64 appInt (.slice av nd nd) l x4 _ (by omega) (by omega) cd2 (by omega) tt2).mono ?_
  rintro e q0 ⟨vo, rfl, vo1, ba⟩
  go_wp2_with fail
  refine (clone_vw vo _ _ tl vo1).mono ?_
  rintro e q1 ⟨vs, rfl, vs1, bc, -⟩
  have bac : Below p5d.heap.size p5d q1 := below_on ba ba.size bc
  go_wp2_with fail
  refine (mag_any x4 _ (by omega) (by omega)).mono ?_
  rintro e q2 ⟨rfl, rfl⟩
  go_wp2_with fail
  refine (zzc_u64 appUint (.slice none 0 0) [] x4.natAbs _ (by omega) (Cp.nil _) (by simp) (tt2.on bac)).mono ?_
  rintro e q3 ⟨vu, rfl, vu1, bd⟩
  rw [List.nil_append] at vu1
  have bad : Below p5d.heap.size p5d q3 := below_on bac bac.size bd
  have bb' := below_on bb bb.size bad
  have cd3 := cd2.on bad
  have cw3 := cw2.on bad
  have vs3 := vs1.vw.on bd
  rw [HD.out] at vs3
  have hrd : ∀ w', Below q3.heap.size q3 w' → Calls Tryd.prog 19 #[vu] w' fun e w'' => e = .returned (.tuple #[.bool false, .int .u64 (x4.natAbs : Int), .bool true]) ∧ w'' = w' :=
    fun w' hb => read_txt vu false x4.natAbs w' (by omega) (fun h => by cases h) (vu1.on hb)
  obtain ⟨gs, cps, evs, hgs, hcs⟩ := vs3.full (by have := txt_pos false x4.natAbs; rw [List.length_append]; omega)
  obtain ⟨gu, cpu, evu, hgu, hcu⟩ := vu1.full (txt_pos false x4.natAbs)
  obtain ⟨aw', eaw, hcw⟩ := cw3.form
  simp only [Value.slice.injEq] at eaw
  obtain ⟨rfl, -, -⟩ := eaw
  rw [evu] at hrd
  have hlt := txt_len false x4.natAbs (by omega)
  have hls : (l ++ txt false x4.natAbs).length = nd + ((txt false x4.natAbs).length + 0) := by rw [List.length_append, hl]; simp [txt]
  have hos : ∀ k (h : k < (txt false x4.natAbs).length), q3.cell? ⟨gs, nd + 0 + k, none⟩ = some (.int .u8 (txt false x4.natAbs)[k]) := by
    intro k hk
    rw [hcs (nd + 0 + k) (by omega), os_get_pos l _ nd k hl hk (by omega)]
  have hol : ∀ k (h : k < l.length), q3.cell? ⟨gs, k, none⟩ = some (.int .u8 l[k]) := by
    intro k hk
    rw [hcs k (by omega), List.getElem_append_left (by omega)]
  rw [hls] at evs
  obtain ⟨m, hm⟩ : ∃ m, m = (txt false x4.natAbs).length := ⟨_, rfl⟩
  rw [← hm] at evs evu hrd hlt
  have HM := Lib.hid (And.intro hm (And.intro hcu (And.intro hos (And.intro hcw (And.intro hol hrd)))))
  have HC := Lib.hid (And.intro cd3 (And.intro cw3 bb'))
  skip
  clear vo1 ba vs1 bc bac vu1 bd bad bb cd2 cw2 tt2 vs3 tl hm hcu hos hcw hol hrd hls hcs cd3 cw3 bb'
  rw [evs, evu]
  clear evs evu
  go_wp2
  go_loopw [29] (fun i wr => ∃ k : Nat, k ≤ nd ∧ i = .int .i64 k ∧ Below q3.heap.size q3 wr) (fun i _ => nd - (RowKit.intOf i).toNat)
  case atStart => exact ⟨0, Nat.zero_le _, rfl, Below.refl _ _⟩
  case round =>
    obtain ⟨k, hk, rfl, hb⟩ := hrel
    by_cases hlt1 : k < nd
    · obtain ⟨g1, rfl, hg1, hcw1⟩ := HM.out.2.2.2.1 k (by omega)
      have d1 : wr.cell? ⟨g1, k, none⟩ = some (.int .u8 (l[k]'(by omega))) := (hb.cell (p := ⟨g1, k, none⟩) hg1).trans hcw1
      have d2 : wr.cell? ⟨gs, k, none⟩ = some (.int .u8 (l[k]'(by omega))) := (hb.cell (p := ⟨gs, k, none⟩) hgs).trans (HM.out.2.2.2.2.1 k (by omega))
      have b1 : (k : Int) < (nd : Int) := by omega
      have b2 : (k : Int) < (nd : Int) + ((m : Int) + 0) := by omega
      have b3 : (k : Int) < (nd : Int) + (m : Int) := by omega
      have b0 : (0 : Int) ≤ (k : Int) := by omega
      clear hcw1
      go_wp2
      go_quiet (fail)
      go_wp2
      go_roundw
      case rel => exact ⟨k + 1, by omega, by go_num, below_drewN hb _⟩
      case measure => simp [RowKit.intOf]; omega
    · obtain ⟨wo, hwo⟩ : ∃ wo : World, wo = wr := ⟨_, rfl⟩
      rw [← hwo] at hb ⊢
      clear hwo wr
      go_wp2
      go_loopw [30] (fun i wr => ∃ j : Nat, j ≤ m ∧ i = .int .i64 j ∧ Below q3.heap.size q3 wr) (fun i _ => m - (RowKit.intOf i).toNat)
      case atStart => exact ⟨0, Nat.zero_le _, rfl, hb⟩
      case round =>
        obtain ⟨j, hj, rfl, hb'⟩ := hrel
        by_cases hlt2 : j < m
        · have hj' : j < (txt false x4.natAbs).length := by have := HM.out.1; omega
          have d3 : wr.cell? ⟨gu, j, none⟩ = some (.int .u8 ((txt false x4.natAbs)[j])) := (hb'.cell (p := ⟨gu, j, none⟩) hgu).trans (HM.out.2.1 j hj')
          have d2 : wr.cell? ⟨gs, nd + 0 + j, none⟩ = some (.int .u8 ((txt false x4.natAbs)[j])) := (hb'.cell (p := ⟨gs, nd + 0 + j, none⟩) hgs).trans (HM.out.2.2.1 j hj')
          rw [Nat.add_zero] at d2
          obtain ⟨cj, hcj⟩ : ∃ cj, cj = (txt false x4.natAbs)[j] := ⟨_, rfl⟩
          rw [← hcj] at d2 d3
          clear hcj
          have b1 : (j : Int) < (m : Int) := by omega
          have b2 : (nd : Int) + 0 + (j : Int) < (nd : Int) + ((m : Int) + 0) := by omega
          have b4 : (nd : Int) + (j : Int) < (nd : Int) + (m : Int) := by omega
          have b0 : (0 : Int) ≤ (j : Int) := by omega
          have b3 : (0 : Int) ≤ (nd : Int) + 0 + (j : Int) := by omega
          have b5 : (0 : Int) ≤ (nd : Int) + (j : Int) := by omega
          go_wp2
          go_quiet (fail)
          go_wp2
          go_roundw
          case rel => exact ⟨j + 1, by omega, by go_num, below_drewN hb' _⟩
          case measure => simp [RowKit.intOf]; omega
        · obtain ⟨wp, hwp⟩ : ∃ wp : World, wp = wr := ⟨_, rfl⟩
          rw [← hwp] at hb' ⊢
          clear hwp wr
          go_wp2_with fail
          refine (HM.out.2.2.2.2.2 _ hb').mono ?_
          rintro e wq ⟨rfl, rfl⟩
          go_wp2_with fail
          refine (mag_any x4 _ (by omega) (by omega)).mono ?_
          rintro e wq2 ⟨rfl, rfl⟩
          go_wp2_with fail
          refine (zz_f32 _ _ _).mono ?_
          rintro e wq3 ⟨rfl, rfl⟩
          have hN1 := HN.out.1
          have hN2 := HN.out.2
          go_wp2_with fail
          refine (same_any _ _ l _ (by omega) (HC.out.1.vw.on hb') (HC.out.2.1.vw.on hb')).mono ?_
          rintro e wz ⟨rfl, bz⟩
          go_wp2
          go_ret
          exact ⟨rfl, below_on (below_on HC.out.2.2 HC.out.2.2.size hb') (by have := HC.out.2.2.size; have := hb'.size; omega) bz⟩

set_option maxRecDepth 100000 in
set_option maxHeartbeats 8000000 in
theorem law2_neg (l : List Int) (x1 x2 x3 x4 : Int) (x5 x6 x7 : Nat) (f : Value) (ad : Option Addr) (nd cd : Nat) (w : World)
    (lx1 : -128 ≤ x1) (ux1 : x1 ≤ 127) (lx2 : -32768 ≤ x2) (ux2 : x2 ≤ 32767) (lx3 : -2147483648 ≤ x3) (ux3 : x3 ≤ 2147483647) (lx4 : -9223372036854775808 ≤ x4) (ux4 : x4 ≤ 9223372036854775807) (ux5 : x5 ≤ 255) (ux6 : x6 ≤ 65535) (ux7 : x7 ≤ 4294967295)
    (hn : nd ≤ 1048576) (hl : l.length = nd) (ht : Tab w) (hsg : x4 < 0)
    (hclone : ∀ w1, Below w.heap.size w w1 → Calls Tryd.prog 6 #[.slice ad nd cd] w1 fun e w' => ∃ a' : Option Addr, e = .returned (.slice a' nd nd) ∧ a'.isNone = ad.isNone ∧ Cp w' (.slice a' nd nd) l ∧ Below w1.heap.size w1 w') :
    Calls Tryd.prog 4 #[.slice ad nd cd, .int .i8 x1, .int .i16 x2, .int .i32 x3, .int .i64 x4, .int .u8 (x5 : Int), .int .u16 (x6 : Int), .int .u32 (x7 : Int), f] w fun e w' => e = .returned (.bool true) ∧ Below w.heap.size w w' := by
  have HH := Lib.hid (And.intro hclone ht)
  clear hclone ht
  have hnil := fun (w : World) a n c => Lib.run_eql_slice_nil (P := Tryd.prog) w 22 5 a n c 0 0 Tryd.underlying22
  have hgt : ¬ (1048576 : Int) < (nd : Int) := by omega
  go_enter Tryd.func4, Tryd.ntmps4
  go_wp2_with fail
  refine (zzBytes4 ad nd cd _ _ _ _ _ _ _ _ w hn).mono ?_
  rintro e w0 ⟨rfl, rfl⟩
  go_wp2_with fail
  refine (HH.out.1 _ (Below.refl _ _)).mono ?_
  rintro e w1 ⟨aw, rfl, haw, cw, b1⟩
  go_wp2_with fail
  refine (HH.out.1 _ b1).mono ?_
  rintro e w2 ⟨av, rfl, hav, cd2, b2⟩
  have cw2 := cw.on b2
  have bb : Below w0.heap.size w0 w2 := below_on b1 b1.size b2
  have tt2 : Tab w2 := HH.out.2.on bb
  have HN := Lib.hid (And.intro haw hav)
  clear cw b1 b2 haw hav
  -- i8
  have tl : (l ++ txt (decide (x1 < 0)) x1.natAbs).length ≤ 4194304 := by have := txt_len (decide (x1 < 0)) x1.natAbs (by omega); rw [List.length_append]; omega
  go_wp2_with fail
  refine (zzc_i8 appInt (.slice av nd nd) l x1 _ (by omega) (by omega) cd2 (by omega) tt2).mono ?_
  rintro e p0a ⟨vo, rfl, vo1, ba⟩
  go_wp2_with fail
  refine (clone_vw vo _ _ tl vo1).mono ?_
  rintro e p0b ⟨vc, rfl, vc1, bc, -⟩
  have bac : Below w2.heap.size w2 p0b := below_on ba ba.size bc
  go_wp2_with fail
  refine (zzc_i64 appInt (.slice av nd nd) l x1 _ (by omega) (by omega) (cd2.on bac) (by omega) (tt2.on bac)).mono ?_
  rintro e p0c ⟨va, rfl, va1, bd⟩
  have vc2 := vc1.vw.on bd
  have bad : Below w2.heap.size w2 p0c := below_on bac bac.size bd
  go_wp2_with fail
  refine (agree_any vc va _ _ (by omega) vc2 va1).mono ?_
  rintro e p0d ⟨rfl, be⟩
  have bz : Below w2.heap.size w2 p0d := below_on bad bad.size be
  have bb' := below_on bb bb.size bz
  have cd2' := cd2.on bz
  have cw2' := cw2.on bz
  have tt2' := tt2.on bz
  clear tl vo1 ba vc1 bc bac va1 bd vc2 bad be bz bb cd2 cw2 tt2
  have bb := bb'
  have cd2 := cd2'
  have cw2 := cw2'
  have tt2 := tt2'
  clear bb' cd2' cw2' tt2'
  -- i16
  have tl : (l ++ txt (decide (x2 < 0)) x2.natAbs).length ≤ 4194304 := by have := txt_len (decide (x2 < 0)) x2.natAbs (by omega); rw [List.length_append]; omega
  go_wp2_with fail
  refine (zzc_i16 appInt (.slice av nd nd) l x2 _ (by omega) (by omega) cd2 (by omega) tt2).mono ?_
  rintro e p1a ⟨vo, rfl, vo1, ba⟩
  go_wp2_with fail
  refine (clone_vw vo _ _ tl vo1).mono ?_
  rintro e p1b ⟨vc, rfl, vc1, bc, -⟩
  have bac : Below p0d.heap.size p0d p1b := below_on ba ba.size bc
  go_wp2_with fail
  refine (zzc_i64 appInt (.slice av nd nd) l x2 _ (by omega) (by omega) (cd2.on bac) (by omega) (tt2.on bac)).mono ?_
  rintro e p1c ⟨va, rfl, va1, bd⟩
  have vc2 := vc1.vw.on bd
  have bad : Below p0d.heap.size p0d p1c := below_on bac bac.size bd
  go_wp2_with fail
  refine (agree_any vc va _ _ (by omega) vc2 va1).mono ?_
  rintro e p1d ⟨rfl, be⟩
  have bz : Below p0d.heap.size p0d p1d := below_on bad bad.size be
  have bb' := below_on bb bb.size bz
  have cd2' := cd2.on bz
  have cw2' := cw2.on bz
  have tt2' := tt2.on bz
  clear tl vo1 ba vc1 bc bac va1 bd vc2 bad be bz bb cd2 cw2 tt2
  have bb := bb'
  have cd2 := cd2'
  have cw2 := cw2'
  have tt2 := tt2'
  clear bb' cd2' cw2' tt2'
  -- i32
  have tl : (l ++ txt (decide (x3 < 0)) x3.natAbs).length ≤ 4194304 := by have := txt_len (decide (x3 < 0)) x3.natAbs (by omega); rw [List.length_append]; omega
  go_wp2_with fail
  refine (zzc_i32 appInt (.slice av nd nd) l x3 _ (by omega) (by omega) cd2 (by omega) tt2).mono ?_
  rintro e p2a ⟨vo, rfl, vo1, ba⟩
  go_wp2_with fail
  refine (clone_vw vo _ _ tl vo1).mono ?_
  rintro e p2b ⟨vc, rfl, vc1, bc, -⟩
  have bac : Below p1d.heap.size p1d p2b := below_on ba ba.size bc
  go_wp2_with fail
  refine (zzc_i64 appInt (.slice av nd nd) l x3 _ (by omega) (by omega) (cd2.on bac) (by omega) (tt2.on bac)).mono ?_
  rintro e p2c ⟨va, rfl, va1, bd⟩
  have vc2 := vc1.vw.on bd
  have bad : Below p1d.heap.size p1d p2c := below_on bac bac.size bd
  go_wp2_with fail
  refine (agree_any vc va _ _ (by omega) vc2 va1).mono ?_
  rintro e p2d ⟨rfl, be⟩
  have bz : Below p1d.heap.size p1d p2d := below_on bad bad.size be
  have bb' := below_on bb bb.size bz
  have cd2' := cd2.on bz
  have cw2' := cw2.on bz
  have tt2' := tt2.on bz
  clear tl vo1 ba vc1 bc bac va1 bd vc2 bad be bz bb cd2 cw2 tt2
  have bb := bb'
  have cd2 := cd2'
  have cw2 := cw2'
  have tt2 := tt2'
  clear bb' cd2' cw2' tt2'
  -- u8
  have tl : (l ++ txt false x5).length ≤ 4194304 := by have := txt_len false x5 (by omega); rw [List.length_append]; omega
  go_wp2_with fail
  refine (zzc_u8 appUint (.slice av nd nd) l x5 _ (by omega) cd2 (by omega) tt2).mono ?_
  rintro e p3a ⟨vo, rfl, vo1, ba⟩
  go_wp2_with fail
  refine (clone_vw vo _ _ tl vo1).mono ?_
  rintro e p3b ⟨vc, rfl, vc1, bc, -⟩
  have bac : Below p2d.heap.size p2d p3b := below_on ba ba.size bc
  go_wp2_with fail
  refine (zzc_u64 appUint (.slice av nd nd) l x5 _ (by omega) (cd2.on bac) (by omega) (tt2.on bac)).mono ?_
  rintro e p3c ⟨va, rfl, va1, bd⟩
  have vc2 := vc1.vw.on bd
  have bad : Below p2d.heap.size p2d p3c := below_on bac bac.size bd
  go_wp2_with fail
  refine (agree_any vc va _ _ (by omega) vc2 va1).mono ?_
  rintro e p3d ⟨rfl, be⟩
  have bz : Below p2d.heap.size p2d p3d := below_on bad bad.size be
  have bb' := below_on bb bb.size bz
  have cd2' := cd2.on bz
  have cw2' := cw2.on bz
  have tt2' := tt2.on bz
  clear tl vo1 ba vc1 bc bac va1 bd vc2 bad be bz bb cd2 cw2 tt2
  have bb := bb'
  have cd2 := cd2'
  have cw2 := cw2'
  have tt2 := tt2'
  clear bb' cd2' cw2' tt2'
  -- u16
  have tl : (l ++ txt false x6).length ≤ 4194304 := by have := txt_len false x6 (by omega); rw [List.length_append]; omega
  go_wp2_with fail
  refine (zzc_u16 appUint (.slice av nd nd) l x6 _ (by omega) cd2 (by omega) tt2).mono ?_
  rintro e p4a ⟨vo, rfl, vo1, ba⟩
  go_wp2_with fail
  refine (clone_vw vo _ _ tl vo1).mono ?_
  rintro e p4b ⟨vc, rfl, vc1, bc, -⟩
  have bac : Below p3d.heap.size p3d p4b := below_on ba ba.size bc
  go_wp2_with fail
  refine (zzc_u64 appUint (.slice av nd nd) l x6 _ (by omega) (cd2.on bac) (by omega) (tt2.on bac)).mono ?_
  rintro e p4c ⟨va, rfl, va1, bd⟩
  have vc2 := vc1.vw.on bd
  have bad : Below p3d.heap.size p3d p4c := below_on bac bac.size bd
  go_wp2_with fail
  refine (agree_any vc va _ _ (by omega) vc2 va1).mono ?_
  rintro e p4d ⟨rfl, be⟩
  have bz : Below p3d.heap.size p3d p4d := below_on bad bad.size be
  have bb' := below_on bb bb.size bz
  have cd2' := cd2.on bz
  have cw2' := cw2.on bz
  have tt2' := tt2.on bz
  clear tl vo1 ba vc1 bc bac va1 bd vc2 bad be bz bb cd2 cw2 tt2
  have bb := bb'
  have cd2 := cd2'
  have cw2 := cw2'
  have tt2 := tt2'
  clear bb' cd2' cw2' tt2'
  -- u32
  have tl : (l ++ txt false x7).length ≤ 4194304 := by have := txt_len false x7 (by omega); rw [List.length_append]; omega
  go_wp2_with fail
  refine (zzc_u32 appUint (.slice av nd nd) l x7 _ (by omega) cd2 (by omega) tt2).mono ?_
  rintro e p5a ⟨vo, rfl, vo1, ba⟩
  go_wp2_with fail
  refine (clone_vw vo _ _ tl vo1).mono ?_
  rintro e p5b ⟨vc, rfl, vc1, bc, -⟩
  have bac : Below p4d.heap.size p4d p5b := below_on ba ba.size bc
  go_wp2_with fail
  refine (zzc_u64 appUint (.slice av nd nd) l x7 _ (by omega) (cd2.on bac) (by omega) (tt2.on bac)).mono ?_
  rintro e p5c ⟨va, rfl, va1, bd⟩
  have vc2 := vc1.vw.on bd
  have bad : Below p4d.heap.size p4d p5c := below_on bac bac.size bd
  go_wp2_with fail
  refine (agree_any vc va _ _ (by omega) vc2 va1).mono ?_
  rintro e p5d ⟨rfl, be⟩
  have bz : Below p4d.heap.size p4d p5d := below_on bad bad.size be
  have bb' := below_on bb bb.size bz
  have cd2' := cd2.on bz
  have cw2' := cw2.on bz
  have tt2' := tt2.on bz
  clear tl vo1 ba vc1 bc bac va1 bd vc2 bad be bz bb cd2 cw2 tt2
  have bb := bb'
  have cd2 := cd2'
  have cw2 := cw2'
  have tt2 := tt2'
  clear bb' cd2' cw2' tt2'
  -- int64 against uint64
  have hdc : decide (x4 < 0) = true := by exact decide_eq_true (by omega)
  have tl : (l ++ txt (decide (x4 < 0)) x4.natAbs).length ≤ 4194304 := by have := txt_len (decide (x4 < 0)) x4.natAbs (by omega); rw [List.length_append]; omega
  have HD := Lib.hid hdc
  clear hdc
  go_wp2_with fail
  refine (zzc_i64 appInt (.slice av nd nd) l x4 _ (by omega) (by omega) cd2 (by omega) tt2).mono ?_
  rintro e q0 ⟨vo, rfl, vo1, ba⟩
  go_wp2_with fail
  refine (clone_vw vo _ _ tl vo1).mono ?_
  rintro e q1 ⟨vs, rfl, vs1, bc, -⟩
  have bac : Below p5d.heap.size p5d q1 := below_on ba ba.size bc
  go_wp2_with fail
  refine (mag_any x4 _ (by omega) (by omega)).mono ?_
  rintro e q2 ⟨rfl, rfl⟩
  go_wp2_with fail
  refine (zzc_u64 appUint (.slice none 0 0) [] x4.natAbs _ (by omega) (Cp.nil _) (by simp) (tt2.on bac)).mono ?_
  rintro e q3 ⟨vu, rfl, vu1, bd⟩
  rw [List.nil_append] at vu1
  have bad : Below p5d.heap.size p5d q3 := below_on bac bac.size bd
  have bb' := below_on bb bb.size bad
  have cd3 := cd2.on bad
  have cw3 := cw2.on bad
  have vs3 := vs1.vw.on bd
  rw [HD.out] at vs3
  have hrd : ∀ w', Below q3.heap.size q3 w' → Calls Tryd.prog 19 #[vu] w' fun e w'' => e = .returned (.tuple #[.bool false, .int .u64 (x4.natAbs : Int), .bool true]) ∧ w'' = w' :=
    fun w' hb => read_txt vu false x4.natAbs w' (by omega) (fun h => by cases h) (vu1.on hb)
  obtain ⟨gs, cps, evs, hgs, hcs⟩ := vs3.full (by have := txt_pos true x4.natAbs; rw [List.length_append]; omega)
  obtain ⟨gu, cpu, evu, hgu, hcu⟩ := vu1.full (txt_pos false x4.natAbs)
  obtain ⟨aw', eaw, hcw⟩ := cw3.form
  simp only [Value.slice.injEq] at eaw
  obtain ⟨rfl, -, -⟩ := eaw
  rw [evu] at hrd
  have hlt := txt_len false x4.natAbs (by omega)
  have hls : (l ++ txt true x4.natAbs).length = nd + ((txt false x4.natAbs).length + 1) := by rw [List.length_append, hl]; simp [txt]
  have hos : ∀ k (h : k < (txt false x4.natAbs).length), q3.cell? ⟨gs, nd + 1 + k, none⟩ = some (.int .u8 (txt false x4.natAbs)[k]) := by
    intro k hk
    rw [hcs (nd + 1 + k) (by omega), os_get_neg l _ nd k hl hk (by omega)]
  have hmin : q3.cell? ⟨gs, nd, none⟩ = some (.int .u8 45) := by
    rw [hcs nd (by omega), List.getElem_append_right (by omega)]
    simp [hl, txt]
  have hol : ∀ k (h : k < l.length), q3.cell? ⟨gs, k, none⟩ = some (.int .u8 l[k]) := by
    intro k hk
    rw [hcs k (by omega), List.getElem_append_left (by omega)]
  rw [hls] at evs
  obtain ⟨m, hm⟩ : ∃ m, m = (txt false x4.natAbs).length := ⟨_, rfl⟩
  rw [← hm] at evs evu hrd hlt
  have HM := Lib.hid (And.intro hm (And.intro hcu (And.intro hos (And.intro hcw (And.intro hol hrd)))))
  have HC := Lib.hid (And.intro cd3 (And.intro cw3 bb'))
  have HX := Lib.hid hmin
  clear vo1 ba vs1 bc bac vu1 bd bad bb cd2 cw2 tt2 vs3 tl hm hcu hos hcw hol hrd hls hcs cd3 cw3 bb' hmin
  rw [evs, evu]
  clear evs evu
  go_wp2
  go_loopw [29] (fun i wr => ∃ k : Nat, k ≤ nd ∧ i = .int .i64 k ∧ Below q3.heap.size q3 wr) (fun i _ => nd - (RowKit.intOf i).toNat)
  case atStart => exact ⟨0, Nat.zero_le _, rfl, Below.refl _ _⟩
  case round =>
    obtain ⟨k, hk, rfl, hb⟩ := hrel
    by_cases hlt1 : k < nd
    · obtain ⟨g1, rfl, hg1, hcw1⟩ := HM.out.2.2.2.1 k (by omega)
      have d1 : wr.cell? ⟨g1, k, none⟩ = some (.int .u8 (l[k]'(by omega))) := (hb.cell (p := ⟨g1, k, none⟩) hg1).trans hcw1
      have d2 : wr.cell? ⟨gs, k, none⟩ = some (.int .u8 (l[k]'(by omega))) := (hb.cell (p := ⟨gs, k, none⟩) hgs).trans (HM.out.2.2.2.2.1 k (by omega))
      have b1 : (k : Int) < (nd : Int) := by omega
      have b2 : (k : Int) < (nd : Int) + ((m : Int) + 1) := by omega
      have b3 : (k : Int) < (nd : Int) + (m : Int) := by omega
      have b0 : (0 : Int) ≤ (k : Int) := by omega
      clear hcw1
      go_wp2
      go_quiet (fail)
      go_wp2
      go_roundw
      case rel => exact ⟨k + 1, by omega, by go_num, below_drewN hb _⟩
      case measure => simp [RowKit.intOf]; omega
    · obtain ⟨wo, hwo⟩ : ∃ wo : World, wo = wr := ⟨_, rfl⟩
      rw [← hwo] at hb ⊢
      clear hwo wr
      have dm : wo.cell? ⟨gs, nd, none⟩ = some (.int .u8 45) := (hb.cell (p := ⟨gs, nd, none⟩) hgs).trans HX.out
      have bm : (nd : Int) < (nd : Int) + ((m : Int) + 1) := by omega
      go_wp2
      go_loopw [30] (fun i wr => ∃ j : Nat, j ≤ m ∧ i = .int .i64 j ∧ Below q3.heap.size q3 wr) (fun i _ => m - (RowKit.intOf i).toNat)
      case atStart => exact ⟨0, Nat.zero_le _, rfl, hb⟩
      case round =>
        obtain ⟨j, hj, rfl, hb'⟩ := hrel
        by_cases hlt2 : j < m
        · have hj' : j < (txt false x4.natAbs).length := by have := HM.out.1; omega
          have d3 : wr.cell? ⟨gu, j, none⟩ = some (.int .u8 ((txt false x4.natAbs)[j])) := (hb'.cell (p := ⟨gu, j, none⟩) hgu).trans (HM.out.2.1 j hj')
          have d2 : wr.cell? ⟨gs, nd + 1 + j, none⟩ = some (.int .u8 ((txt false x4.natAbs)[j])) := (hb'.cell (p := ⟨gs, nd + 1 + j, none⟩) hgs).trans (HM.out.2.2.1 j hj')
          skip
          obtain ⟨cj, hcj⟩ : ∃ cj, cj = (txt false x4.natAbs)[j] := ⟨_, rfl⟩
          rw [← hcj] at d2 d3
          clear hcj
          have b1 : (j : Int) < (m : Int) := by omega
          have b2 : (nd : Int) + 1 + (j : Int) < (nd : Int) + ((m : Int) + 1) := by omega
          have b4 : (nd : Int) + (j : Int) < (nd : Int) + (m : Int) := by omega
          have b0 : (0 : Int) ≤ (j : Int) := by omega
          have b3 : (0 : Int) ≤ (nd : Int) + 1 + (j : Int) := by omega
          have b5 : (0 : Int) ≤ (nd : Int) + (j : Int) := by omega
          go_wp2
          go_quiet (fail)
          go_wp2
          go_roundw
          case rel => exact ⟨j + 1, by omega, by go_num, below_drewN hb' _⟩
          case measure => simp [RowKit.intOf]; omega
        · obtain ⟨wp, hwp⟩ : ∃ wp : World, wp = wr := ⟨_, rfl⟩
          rw [← hwp] at hb' ⊢
          clear hwp wr
          go_wp2_with fail
          refine (HM.out.2.2.2.2.2 _ hb').mono ?_
          rintro e wq ⟨rfl, rfl⟩
          go_wp2_with fail
          refine (mag_any x4 _ (by omega) (by omega)).mono ?_
          rintro e wq2 ⟨rfl, rfl⟩
          go_wp2_with fail
          refine (zz_f32 _ _ _).mono ?_
          rintro e wq3 ⟨rfl, rfl⟩
          have hN1 := HN.out.1
          have hN2 := HN.out.2
          go_wp2_with fail
          refine (same_any _ _ l _ (by omega) (HC.out.1.vw.on hb') (HC.out.2.1.vw.on hb')).mono ?_
          rintro e wz ⟨rfl, bz⟩
          go_wp2
          go_ret
          exact ⟨rfl, below_on (below_on HC.out.2.2 HC.out.2.2.size hb') (by have := HC.out.2.2.size; have := hb'.size; omega) bz⟩

theorem walk2 (a : Option Addr) (len cap : Nat) (zs : List Int) (w : World) (h : IsRow .u8 w a len cap zs) (tab : Tab w)
    (x1 x2 x3 x4 : Int) (x5 x6 x7 : Nat) (f : Value) (lx1 : -128 ≤ x1) (ux1 : x1 ≤ 127) (lx2 : -32768 ≤ x2) (ux2 : x2 ≤ 32767) (lx3 : -2147483648 ≤ x3) (ux3 : x3 ≤ 2147483647) (lx4 : -9223372036854775808 ≤ x4) (ux4 : x4 ≤ 9223372036854775807) (ux5 : x5 ≤ 255) (ux6 : x6 ≤ 65535) (ux7 : x7 ≤ 4294967295) :
    Calls Tryd.prog 4 #[.slice a len cap, .int .i8 x1, .int .i16 x2, .int .i32 x3, .int .i64 x4, .int .u8 (x5 : Int), .int .u16 (x6 : Int), .int .u32 (x7 : Int), f] w fun e w' => e = .returned (.bool true) ∧ Below w.heap.size w w' := by
  by_cases hn : len ≤ 1048576
  · obtain ⟨l, hl, hc⟩ := clone_arg2 a len cap zs w h hn
    by_cases hs : x4 < 0
    · exact law2_neg l x1 x2 x3 x4 x5 x6 x7 f a len cap w lx1 ux1 lx2 ux2 lx3 ux3 lx4 ux4 ux5 ux6 ux7 hn hl tab hs hc
    · exact law2_pos l x1 x2 x3 x4 x5 x6 x7 f a len cap w lx1 ux1 lx2 ux2 lx3 ux3 lx4 ux4 ux5 ux6 ux7 hn hl tab hs hc
  · refine (law2_long a len cap _ _ _ _ _ _ _ _ w (by omega)).mono ?_
    rintro e w' ⟨rfl, rfl⟩
    exact ⟨rfl, Below.refl _ _⟩
end Go.Proofs.Qxb6614854aDoor
