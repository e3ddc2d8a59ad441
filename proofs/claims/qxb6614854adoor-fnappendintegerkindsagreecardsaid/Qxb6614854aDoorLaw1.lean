/-
  THE LAW 'FnAppendIntegerWritesCanonicalDecimal' (seat b6614854aD): its walk out of contracts.
-/
import Derived.Test.Qxb6614854aDoorView
import Derived.Test.Qxb6614854aDoorKinds
namespace Go.Proofs.Qxb6614854aDoor
open Go.RowKit Go.Lib
set_option linter.unusedVariables false

/-- strconv.AppendInt(dst, i, 10) onto a row without spare room: a new row: dst's bytes, then the numeral; nothing that was there has turned. -/
def AppIntC : Prop := ∀ (v : Value) (l : List Int) (i : Int) (w : World), -9223372036854775808 ≤ i → i ≤ 9223372036854775807 → Cp w v l → l.length ≤ 4194304 → Tab w →
  Calls Tryd.prog 23 #[v, .int .i64 i, .int .i64 10] w fun e w' => ∃ v', e = .returned v' ∧ Vw w' v' (l ++ txt (decide (i < 0)) i.natAbs) ∧ Below w.heap.size w w'
/-- strconv.AppendUint(dst, u, 10): likewise. -/
def AppUintC : Prop := ∀ (v : Value) (l : List Int) (u : Nat) (w : World), u ≤ 18446744073709551615 → Cp w v l → l.length ≤ 4194304 → Tab w →
  Calls Tryd.prog 24 #[v, .int .u64 (u : Int), .int .i64 10] w fun e w' => ∃ v', e = .returned v' ∧ Vw w' v' (l ++ txt false u) ∧ Below w.heap.size w w'

theorem zzc_i8 (HI : AppIntC) (v : Value) (l : List Int) (i : Int) (w : World) (h0 : -128 ≤ i) (h1 : i ≤ 127) (hv : Cp w v l) (hl : l.length ≤ 4194304) (ht : Tab w) :
    Calls Tryd.prog 7 #[v, .int .i8 i] w fun e w' => ∃ v', e = .returned (.tuple #[v', .bool true]) ∧ Vw w' v' (l ++ txt (decide (i < 0)) i.natAbs) ∧ Below w.heap.size w w' :=
  zz_i8 v i w (fun v' w' => Vw w' v' (l ++ txt (decide (i < 0)) i.natAbs) ∧ Below w.heap.size w w') h0 h1 (HI v l i w (by omega) (by omega) hv hl ht)
theorem zzc_i16 (HI : AppIntC) (v : Value) (l : List Int) (i : Int) (w : World) (h0 : -32768 ≤ i) (h1 : i ≤ 32767) (hv : Cp w v l) (hl : l.length ≤ 4194304) (ht : Tab w) :
    Calls Tryd.prog 10 #[v, .int .i16 i] w fun e w' => ∃ v', e = .returned (.tuple #[v', .bool true]) ∧ Vw w' v' (l ++ txt (decide (i < 0)) i.natAbs) ∧ Below w.heap.size w w' :=
  zz_i16 v i w (fun v' w' => Vw w' v' (l ++ txt (decide (i < 0)) i.natAbs) ∧ Below w.heap.size w w') h0 h1 (HI v l i w (by omega) (by omega) hv hl ht)
theorem zzc_i32 (HI : AppIntC) (v : Value) (l : List Int) (i : Int) (w : World) (h0 : -2147483648 ≤ i) (h1 : i ≤ 2147483647) (hv : Cp w v l) (hl : l.length ≤ 4194304) (ht : Tab w) :
    Calls Tryd.prog 11 #[v, .int .i32 i] w fun e w' => ∃ v', e = .returned (.tuple #[v', .bool true]) ∧ Vw w' v' (l ++ txt (decide (i < 0)) i.natAbs) ∧ Below w.heap.size w w' :=
  zz_i32 v i w (fun v' w' => Vw w' v' (l ++ txt (decide (i < 0)) i.natAbs) ∧ Below w.heap.size w w') h0 h1 (HI v l i w (by omega) (by omega) hv hl ht)
theorem zzc_i64 (HI : AppIntC) (v : Value) (l : List Int) (i : Int) (w : World) (h0 : -9223372036854775808 ≤ i) (h1 : i ≤ 9223372036854775807) (hv : Cp w v l) (hl : l.length ≤ 4194304) (ht : Tab w) :
    Calls Tryd.prog 12 #[v, .int .i64 i] w fun e w' => ∃ v', e = .returned (.tuple #[v', .bool true]) ∧ Vw w' v' (l ++ txt (decide (i < 0)) i.natAbs) ∧ Below w.heap.size w w' :=
  zz_i64 v i w (fun v' w' => Vw w' v' (l ++ txt (decide (i < 0)) i.natAbs) ∧ Below w.heap.size w w') h0 h1 (HI v l i w (by omega) (by omega) hv hl ht)
theorem zzc_u8 (HU : AppUintC) (v : Value) (l : List Int) (u : Nat) (w : World) (h1 : u ≤ 255) (hv : Cp w v l) (hl : l.length ≤ 4194304) (ht : Tab w) :
    Calls Tryd.prog 13 #[v, .int .u8 (u : Int)] w fun e w' => ∃ v', e = .returned (.tuple #[v', .bool true]) ∧ Vw w' v' (l ++ txt false u) ∧ Below w.heap.size w w' :=
  zz_u8 v u w (fun v' w' => Vw w' v' (l ++ txt false u) ∧ Below w.heap.size w w') (by omega) (by omega) (HU v l u w (by omega) hv hl ht)
theorem zzc_u16 (HU : AppUintC) (v : Value) (l : List Int) (u : Nat) (w : World) (h1 : u ≤ 65535) (hv : Cp w v l) (hl : l.length ≤ 4194304) (ht : Tab w) :
    Calls Tryd.prog 14 #[v, .int .u16 (u : Int)] w fun e w' => ∃ v', e = .returned (.tuple #[v', .bool true]) ∧ Vw w' v' (l ++ txt false u) ∧ Below w.heap.size w w' :=
  zz_u16 v u w (fun v' w' => Vw w' v' (l ++ txt false u) ∧ Below w.heap.size w w') (by omega) (by omega) (HU v l u w (by omega) hv hl ht)
theorem zzc_u32 (HU : AppUintC) (v : Value) (l : List Int) (u : Nat) (w : World) (h1 : u ≤ 4294967295) (hv : Cp w v l) (hl : l.length ≤ 4194304) (ht : Tab w) :
    Calls Tryd.prog 15 #[v, .int .u32 (u : Int)] w fun e w' => ∃ v', e = .returned (.tuple #[v', .bool true]) ∧ Vw w' v' (l ++ txt false u) ∧ Below w.heap.size w w' :=
  zz_u32 v u w (fun v' w' => Vw w' v' (l ++ txt false u) ∧ Below w.heap.size w w') (by omega) (by omega) (HU v l u w (by omega) hv hl ht)
theorem zzc_u64 (HU : AppUintC) (v : Value) (l : List Int) (u : Nat) (w : World) (h1 : u ≤ 18446744073709551615) (hv : Cp w v l) (hl : l.length ≤ 4194304) (ht : Tab w) :
    Calls Tryd.prog 16 #[v, .int .u64 (u : Int)] w fun e w' => ∃ v', e = .returned (.tuple #[v', .bool true]) ∧ Vw w' v' (l ++ txt false u) ∧ Below w.heap.size w w' :=
  zz_u64 v u w (fun v' w' => Vw w' v' (l ++ txt false u) ∧ Below w.heap.size w w') (by omega) (by omega) (HU v l u w (by omega) hv hl ht)

/-- ONE CHECK OF THE LAW: behind two appends (onto dst, onto nil) everything that checkAppend wants. -/
theorem below_on {N : Nat} {a b c : World} (h : Below N a b) (hN : N ≤ b.heap.size) (k : Below b.heap.size b c) : Below N a c := h.trans (k.mono hN)

set_option maxRecDepth 100000 in
set_option maxHeartbeats 4000000 in
theorem law1_core (HI : AppIntC) (HU : AppUintC) (l : List Int) (x1 : Int) (x2 : Int) (x3 : Int) (x4 : Int) (x5 : Nat) (x6 : Nat) (x7 : Nat) (x8 : Nat) (ad : Option Addr) (nd cd : Nat) (w : World)
    (lx1 : -128 ≤ x1) (ux1 : x1 ≤ 127) (lx2 : -32768 ≤ x2) (ux2 : x2 ≤ 32767) (lx3 : -2147483648 ≤ x3) (ux3 : x3 ≤ 2147483647) (lx4 : -9223372036854775808 ≤ x4) (ux4 : x4 ≤ 9223372036854775807) (ux5 : x5 ≤ 255) (ux6 : x6 ≤ 65535) (ux7 : x7 ≤ 4294967295) (ux8 : x8 ≤ 18446744073709551615)
    (hn : nd ≤ 1048576) (hl : l.length = nd) (ht : Tab w)
    (hclone : ∀ w1, Below w.heap.size w w1 → Calls Tryd.prog 6 #[.slice ad nd cd] w1 fun e w' => ∃ v', e = .returned v' ∧ Cp w' v' l ∧ Below w1.heap.size w1 w') :
    Calls Tryd.prog 3 #[.slice ad nd cd, .int .i8 x1, .int .i16 x2, .int .i32 x3, .int .i64 x4, .int .u8 (x5 : Int), .int .u16 (x6 : Int), .int .u32 (x7 : Int), .int .u64 (x8 : Int)] w fun e w' => e = .returned (.bool true) ∧ Below w.heap.size w w' := by
  have HH := Lib.hid (And.intro HI (And.intro HU (And.intro hclone ht)))
  clear HI HU hclone ht
  have hgt : ¬ (1048576 : Int) < (nd : Int) := by omega
  go_enter Tryd.func3, Tryd.ntmps3
  go_wp2_with fail
  refine (zzBytes3 ad nd cd _ _ _ _ _ _ _ _ w hn).mono ?_
  rintro e w0 ⟨rfl, rfl⟩
  go_wp2_with fail
  refine (HH.out.2.2.1 _ (Below.refl _ _)).mono ?_
  rintro e w1 ⟨vw, rfl, cw, b1⟩
  go_wp2_with fail
  refine (HH.out.2.2.1 _ b1).mono ?_
  rintro e w2 ⟨vd, rfl, cd2, b2⟩
  have cw2 := cw.vw.on b2
  have bb : Below w0.heap.size w0 w2 := below_on b1 b1.size b2
  have tt2 : Tab w2 := HH.out.2.2.2.on bb
  clear cw b1 b2
  -- i8
  go_wp2_with fail
  refine (zzc_i8 HH.out.1 vd l x1 _ (by omega) (by omega) cd2 (by omega) tt2).mono ?_
  rintro e p0a ⟨vo, rfl, vo1, ba⟩
  have tta := tt2.on ba
  go_wp2_with fail
  refine (zzc_i8 HH.out.1 (.slice none 0 0) [] x1 _ (by omega) (by omega) (Cp.nil _) (by simp) tta).mono ?_
  rintro e p0b ⟨va, rfl, va1, bc⟩
  have vo2 := vo1.on bc
  have bac : Below w2.heap.size w2 p0b := below_on ba ba.size bc
  rw [List.nil_append] at va1
  go_wp2_with fail
  refine (mag_any x1 _ (by omega) (by omega)).mono ?_
  rintro e p0c ⟨rfl, rfl⟩
  go_wp2_with fail
  refine (check_any vw vo va l (decide (x1 < 0)) x1.natAbs _ (by omega) (by intro h; have := of_decide_eq_true h; omega) (by omega) (cw2.on bac) vo2 va1).mono ?_
  rintro e p0d ⟨rfl, bd⟩
  have bz : Below w2.heap.size w2 p0d := below_on bac bac.size bd
  have bb' := below_on bb bb.size bz
  have cd2' := cd2.on bz
  have cw2' := cw2.on bz
  have tt2' := tt2.on bz
  clear vo1 ba tta va1 bc vo2 bac bd bz bb cd2 cw2 tt2
  have bb := bb'
  have cd2 := cd2'
  have cw2 := cw2'
  have tt2 := tt2'
  clear bb' cd2' cw2' tt2'
  -- i16
  go_wp2_with fail
  refine (zzc_i16 HH.out.1 vd l x2 _ (by omega) (by omega) cd2 (by omega) tt2).mono ?_
  rintro e p1a ⟨vo, rfl, vo1, ba⟩
  have tta := tt2.on ba
  go_wp2_with fail
  refine (zzc_i16 HH.out.1 (.slice none 0 0) [] x2 _ (by omega) (by omega) (Cp.nil _) (by simp) tta).mono ?_
  rintro e p1b ⟨va, rfl, va1, bc⟩
  have vo2 := vo1.on bc
  have bac : Below p0d.heap.size p0d p1b := below_on ba ba.size bc
  rw [List.nil_append] at va1
  go_wp2_with fail
  refine (mag_any x2 _ (by omega) (by omega)).mono ?_
  rintro e p1c ⟨rfl, rfl⟩
  go_wp2_with fail
  refine (check_any vw vo va l (decide (x2 < 0)) x2.natAbs _ (by omega) (by intro h; have := of_decide_eq_true h; omega) (by omega) (cw2.on bac) vo2 va1).mono ?_
  rintro e p1d ⟨rfl, bd⟩
  have bz : Below p0d.heap.size p0d p1d := below_on bac bac.size bd
  have bb' := below_on bb bb.size bz
  have cd2' := cd2.on bz
  have cw2' := cw2.on bz
  have tt2' := tt2.on bz
  clear vo1 ba tta va1 bc vo2 bac bd bz bb cd2 cw2 tt2
  have bb := bb'
  have cd2 := cd2'
  have cw2 := cw2'
  have tt2 := tt2'
  clear bb' cd2' cw2' tt2'
  -- i32
  go_wp2_with fail
  refine (zzc_i32 HH.out.1 vd l x3 _ (by omega) (by omega) cd2 (by omega) tt2).mono ?_
  rintro e p2a ⟨vo, rfl, vo1, ba⟩
  have tta := tt2.on ba
  go_wp2_with fail
  refine (zzc_i32 HH.out.1 (.slice none 0 0) [] x3 _ (by omega) (by omega) (Cp.nil _) (by simp) tta).mono ?_
  rintro e p2b ⟨va, rfl, va1, bc⟩
  have vo2 := vo1.on bc
  have bac : Below p1d.heap.size p1d p2b := below_on ba ba.size bc
  rw [List.nil_append] at va1
  go_wp2_with fail
  refine (mag_any x3 _ (by omega) (by omega)).mono ?_
  rintro e p2c ⟨rfl, rfl⟩
  go_wp2_with fail
  refine (check_any vw vo va l (decide (x3 < 0)) x3.natAbs _ (by omega) (by intro h; have := of_decide_eq_true h; omega) (by omega) (cw2.on bac) vo2 va1).mono ?_
  rintro e p2d ⟨rfl, bd⟩
  have bz : Below p1d.heap.size p1d p2d := below_on bac bac.size bd
  have bb' := below_on bb bb.size bz
  have cd2' := cd2.on bz
  have cw2' := cw2.on bz
  have tt2' := tt2.on bz
  clear vo1 ba tta va1 bc vo2 bac bd bz bb cd2 cw2 tt2
  have bb := bb'
  have cd2 := cd2'
  have cw2 := cw2'
  have tt2 := tt2'
  clear bb' cd2' cw2' tt2'
  -- i64
  go_wp2_with fail
  refine (zzc_i64 HH.out.1 vd l x4 _ (by omega) (by omega) cd2 (by omega) tt2).mono ?_
  rintro e p3a ⟨vo, rfl, vo1, ba⟩
  have tta := tt2.on ba
  go_wp2_with fail
  refine (zzc_i64 HH.out.1 (.slice none 0 0) [] x4 _ (by omega) (by omega) (Cp.nil _) (by simp) tta).mono ?_
  rintro e p3b ⟨va, rfl, va1, bc⟩
  have vo2 := vo1.on bc
  have bac : Below p2d.heap.size p2d p3b := below_on ba ba.size bc
  rw [List.nil_append] at va1
  go_wp2_with fail
  refine (mag_any x4 _ (by omega) (by omega)).mono ?_
  rintro e p3c ⟨rfl, rfl⟩
  go_wp2_with fail
  refine (check_any vw vo va l (decide (x4 < 0)) x4.natAbs _ (by omega) (by intro h; have := of_decide_eq_true h; omega) (by omega) (cw2.on bac) vo2 va1).mono ?_
  rintro e p3d ⟨rfl, bd⟩
  have bz : Below p2d.heap.size p2d p3d := below_on bac bac.size bd
  have bb' := below_on bb bb.size bz
  have cd2' := cd2.on bz
  have cw2' := cw2.on bz
  have tt2' := tt2.on bz
  clear vo1 ba tta va1 bc vo2 bac bd bz bb cd2 cw2 tt2
  have bb := bb'
  have cd2 := cd2'
  have cw2 := cw2'
  have tt2 := tt2'
  clear bb' cd2' cw2' tt2'
  -- u8
  go_wp2_with fail
  refine (zzc_u8 HH.out.2.1 vd l x5 _ (by omega) cd2 (by omega) tt2).mono ?_
  rintro e p4a ⟨vo, rfl, vo1, ba⟩
  have tta := tt2.on ba
  go_wp2_with fail
  refine (zzc_u8 HH.out.2.1 (.slice none 0 0) [] x5 _ (by omega) (Cp.nil _) (by simp) tta).mono ?_
  rintro e p4b ⟨va, rfl, va1, bc⟩
  have vo2 := vo1.on bc
  have bac : Below p3d.heap.size p3d p4b := below_on ba ba.size bc
  rw [List.nil_append] at va1
  go_wp2_with fail
  refine (check_any vw vo va l false x5 _ (by omega) (by intro h; cases h) (by omega) (cw2.on bac) vo2 va1).mono ?_
  rintro e p4d ⟨rfl, bd⟩
  have bz : Below p3d.heap.size p3d p4d := below_on bac bac.size bd
  have bb' := below_on bb bb.size bz
  have cd2' := cd2.on bz
  have cw2' := cw2.on bz
  have tt2' := tt2.on bz
  clear vo1 ba tta va1 bc vo2 bac bd bz bb cd2 cw2 tt2
  have bb := bb'
  have cd2 := cd2'
  have cw2 := cw2'
  have tt2 := tt2'
  clear bb' cd2' cw2' tt2'
  -- u16
  go_wp2_with fail
  refine (zzc_u16 HH.out.2.1 vd l x6 _ (by omega) cd2 (by omega) tt2).mono ?_
  rintro e p5a ⟨vo, rfl, vo1, ba⟩
  have tta := tt2.on ba
  go_wp2_with fail
  refine (zzc_u16 HH.out.2.1 (.slice none 0 0) [] x6 _ (by omega) (Cp.nil _) (by simp) tta).mono ?_
  rintro e p5b ⟨va, rfl, va1, bc⟩
  have vo2 := vo1.on bc
  have bac : Below p4d.heap.size p4d p5b := below_on ba ba.size bc
  rw [List.nil_append] at va1
  go_wp2_with fail
  refine (check_any vw vo va l false x6 _ (by omega) (by intro h; cases h) (by omega) (cw2.on bac) vo2 va1).mono ?_
  rintro e p5d ⟨rfl, bd⟩
  have bz : Below p4d.heap.size p4d p5d := below_on bac bac.size bd
  have bb' := below_on bb bb.size bz
  have cd2' := cd2.on bz
  have cw2' := cw2.on bz
  have tt2' := tt2.on bz
  clear vo1 ba tta va1 bc vo2 bac bd bz bb cd2 cw2 tt2
  have bb := bb'
  have cd2 := cd2'
  have cw2 := cw2'
  have tt2 := tt2'
  clear bb' cd2' cw2' tt2'
  -- u32
  go_wp2_with fail
  refine (zzc_u32 HH.out.2.1 vd l x7 _ (by omega) cd2 (by omega) tt2).mono ?_
  rintro e p6a ⟨vo, rfl, vo1, ba⟩
  have tta := tt2.on ba
  go_wp2_with fail
  refine (zzc_u32 HH.out.2.1 (.slice none 0 0) [] x7 _ (by omega) (Cp.nil _) (by simp) tta).mono ?_
  rintro e p6b ⟨va, rfl, va1, bc⟩
  have vo2 := vo1.on bc
  have bac : Below p5d.heap.size p5d p6b := below_on ba ba.size bc
  rw [List.nil_append] at va1
  go_wp2_with fail
  refine (check_any vw vo va l false x7 _ (by omega) (by intro h; cases h) (by omega) (cw2.on bac) vo2 va1).mono ?_
  rintro e p6d ⟨rfl, bd⟩
  have bz : Below p5d.heap.size p5d p6d := below_on bac bac.size bd
  have bb' := below_on bb bb.size bz
  have cd2' := cd2.on bz
  have cw2' := cw2.on bz
  have tt2' := tt2.on bz
  clear vo1 ba tta va1 bc vo2 bac bd bz bb cd2 cw2 tt2
  have bb := bb'
  have cd2 := cd2'
  have cw2 := cw2'
  have tt2 := tt2'
  clear bb' cd2' cw2' tt2'
  -- u64
  go_wp2_with fail
  refine (zzc_u64 HH.out.2.1 vd l x8 _ (by omega) cd2 (by omega) tt2).mono ?_
  rintro e p7a ⟨vo, rfl, vo1, ba⟩
  have tta := tt2.on ba
  go_wp2_with fail
  refine (zzc_u64 HH.out.2.1 (.slice none 0 0) [] x8 _ (by omega) (Cp.nil _) (by simp) tta).mono ?_
  rintro e p7b ⟨va, rfl, va1, bc⟩
  have vo2 := vo1.on bc
  have bac : Below p6d.heap.size p6d p7b := below_on ba ba.size bc
  rw [List.nil_append] at va1
  go_wp2_with fail
  refine (check_any vw vo va l false x8 _ (by omega) (by intro h; cases h) (by omega) (cw2.on bac) vo2 va1).mono ?_
  rintro e p7d ⟨rfl, bd⟩
  have bz : Below p6d.heap.size p6d p7d := below_on bac bac.size bd
  have bb' := below_on bb bb.size bz
  have cd2' := cd2.on bz
  have cw2' := cw2.on bz
  have tt2' := tt2.on bz
  clear vo1 ba tta va1 bc vo2 bac bd bz bb cd2 cw2 tt2
  have bb := bb'
  have cd2 := cd2'
  have cw2 := cw2'
  have tt2 := tt2'
  clear bb' cd2' cw2' tt2'
  go_wp2
  go_ret
  exact ⟨rfl, bb⟩
end Go.Proofs.Qxb6614854aDoor
