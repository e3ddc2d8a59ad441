/-
  strconv.AppendInt, AppendUint at base 10 ONTO A ROW WITHOUT SPARE ROOM (seat b6614854aD): the append moves: nothing old turns. Over the shelf contracts on small, numDigits, formatBase10.
-/
import Derived.Test.Qxb6614854aDoorLaw1
import Derived.Lib.AppendStr
import Derived.ArgAppend
import Derived.Lib.Slices
import Derived.Lib.ItoaMem
import Derived.Lib.ItoaWalk
import Derived.CellFam
import Derived.BigCall
import Derived.BigGuard
namespace Go.Proofs.Qxb6614854aDoor
open Go.RowKit Go.Lib Go.Sort
set_option linter.unusedVariables false

/-- 'append(b, s...)', b A ROW WITHOUT SPARE ROOM, s A STRING THAT IS NOT EMPTY: a new row. -/
theorem wpList_append_full_string {P : Program} (w : World) {ops : Array Oper} {rest : List Oper} {o : Oper} {a : Act} {Q : Exit → Act → World → Prop} (hgd : o.guard = none) (sl x : Operand) (t u : TypeId)
    (ho : o.op = .call { callee := .builtin .append, args := #[sl, x], argTypes := #[t, u] })
    (e : TypeId) (i : TypeInfo) (ht : P.underlying t = some (.slice e)) (hu : P.underlying u = some .string) (hi : P.info? e = some i) (hz : i.zero = some (.int .u8 0))
    (hsize : i.size = 1) (hby : i.bytes = 1)
    (g n : Nat) (xs : List Value) (hs : a.eval sl = .slice (some ⟨g, 0, none⟩) n n) (hlo : xs.length = n) (holds : ∀ j v, xs[j]? = some v → w.cell? ((⟨g, 0, none⟩ : Addr).add j) = some v)
    (s : ByteArray) (hx : a.eval x = .string s) (hs0 : 0 < s.size) (hbytes : n + s.size ≤ 140737488355328)
    (h : ∀ v' w', w'.ownsRow w.heap.size e 1 v' (n + s.size) (xs ++ strCells s) → w.grownBy w' none → wpList P ops Q rest (a.put o.dst v') w') : wpList P ops Q (o :: rest) a w := by
  refine wpList_plain hgd fun K hK => ?_
  have h63 : n + s.size ≤ maxLen := by unfold maxLen; omega
  have hr := run_append_grow_string (P := P) w t u o.type e i (.int .u8 0) ht hu hi hz ⟨g, 0, none⟩ n n xs (by rw [hsize]; omega) holds s (by omega) (by omega) (by rw [hby]; exact growslice_fits (by omega) (by omega))
  have hlen : (xs ++ strCells s).length = (n + s.size) * 1 := by rw [List.length_append, hlo, strCells_length, Nat.mul_one]
  have hge := grownCap_ge w (n + s.size) n e
  have hcm : grownCap w (n + s.size) n e ≤ maxLen := grownCap_le_maxLen w (n + s.size) n e h63
  have hown : (w.drew.alloc (.cells (xs.toArray ++ (strCells s).toArray ++ Builtin.zeroCells (Value.int .u8 0).cells (grownCap w (n + s.size) n e - (n + s.size))) e)).ownsRow w.heap.size e 1
        (.slice (some ⟨w.heap.size, 0, none⟩) (n + s.size) (grownCap w (n + s.size) n e)) (n + s.size) (xs ++ strCells s) := by
    refine ⟨hlen, .inr ⟨w.heap.size, _, _, rfl, Nat.le_refl _, heap_alloc_new w.drew _, hge, hcm, ?_, ?_⟩⟩
    · have hz1 : (Value.int IntKind.u8 0).cells.size = 1 := rfl
      simp only [Array.size_append, List.size_toArray, size_zeroCells, hz1, hlo, strCells_length]
      omega
    · simp only [Array.toList_append, List.append_assoc]
      rw [← List.append_assoc, ← hlen]
      exact List.take_left
  unfold Oper.wp execOp
  simp only [ho, resolve, invoke, builtin, Sem.run_bind, Sem.run_pure, Result.andThen_ok, List.map_toArray, List.map_cons, List.map_nil, hs, hx, hr]
  exact hK _ _ (h _ _ hown ⟨rfl, rfl, rfl, by simp, fun k hk _ => Go.heap_alloc_old w.drew _ hk⟩)

/-- What comes back of an append, as a view. -/
theorem vw_of (w : World) (B : Nat) (v : Value) (m : Nat) (l : List Int) (neg : Bool) (u : Nat) (h : w.ownsRow B 5 1 v m (cs (l ++ txt neg u))) : Vw w v (l ++ txt neg u) := (Vw.of_owns h).1

theorem cs_txt (l : List Int) (u : Nat) : cs l ++ Lib.byteCells (Lib.decDigits u) = cs (l ++ txt false u) := by
  simp [cs, txt, Lib.byteCells]
theorem cs_txt_neg (l : List Int) (u : Nat) : cs l ++ [Value.int .u8 45] ++ Lib.byteCells (Lib.decDigits u) = cs (l ++ txt true u) := by
  simp [cs, txt, Lib.byteCells]

theorem dec_len (u : Nat) (hu : u ≤ 18446744073709551615) : (Lib.decDigits u).length ≤ 20 := by rw [Lib.decDigits_length]; exact nd20 u hu

set_option maxHeartbeats 6400000 in
set_option maxRecDepth 100000 in
theorem uint_small (g n u : Nat) (hu : u < 100) (xs : List Value) (w : World) (hlo : xs.length = n) (holds : ∀ j v, xs[j]? = some v → w.cell? ((⟨g, 0, none⟩ : Addr).add j) = some v) (hlim : n ≤ 4194304) :
    Calls Tryd.prog 26 #[.slice (some ⟨g, 0, none⟩) n n, .int .u64 u, .int .i64 10] w fun e w' => ∃ v', e = .returned v' ∧ w'.ownsRow w.heap.size 5 1 v' (n + (Lib.decDigits u).length) (xs ++ Lib.byteCells (Lib.decDigits u)) ∧ Below w.heap.size w w' := by
  obtain ⟨i0, hi, hz0, hz1, hz2⟩ := info_parts infoByte
  have hlen := dec_len u (by omega)
  have hpos : 0 < (Lib.decDigits u).length := by rw [Lib.decDigits_length]; exact Lib.nDigits_pos u
  have hsz : (⟨(Lib.decDigits u).toArray⟩ : ByteArray).size = (Lib.decDigits u).length := by simp [ByteArray.size]
  go_enter Tryd.func26, Tryd.ntmps26
  go_wp2_with (first
    | (go_at_call 27; refine (Tryd.internal_strconv_small u hu _).mono ?_; rintro e w' ⟨rfl, rfl⟩)
    | (at_builtin; refine wpList_append_full_string _ rfl _ _ 22 9 rfl 5 i0 Tryd.underlying22 Tryd.underlying9 hi hz0 hz1 hz2 g n xs rfl hlo holds ⟨(Lib.decDigits u).toArray⟩ rfl (by rw [hsz]; exact hpos) (by rw [hsz]; omega) ?_))
  intro v' w1 hown' hgrow
  go_wp2
  go_ret
  refine ⟨v', rfl, ?_, (Below.refl _ _).grown hgrow (Nat.le_refl _) (fun k hk => by cases hk)⟩
  first | exact hown' | (rw [hsz] at hown'; exact hown')

/-- What is owned from a block number on is owned from every smaller one. -/
theorem ownsRow_down {w : World} {B B' : Nat} {v : Value} {n : Nat} {xs : List Value} (h : w.ownsRow B 5 1 v n xs) (hB : B' ≤ B) : w.ownsRow B' 5 1 v n xs := by
  obtain ⟨h1, h2 | ⟨g, cap, cur, hv, hb, r⟩⟩ := h
  · exact ⟨h1, .inl h2⟩
  · exact ⟨h1, .inr ⟨g, cap, cur, hv, Nat.le_trans hB hb, r⟩⟩

set_option maxHeartbeats 12800000 in
set_option maxRecDepth 100000 in
theorem uint_big (g n u : Nat) (hu : 100 ≤ u) (hu64 : u < 18446744073709551616) (xs : List Value) (w : World) (hgw : g < w.heap.size) (hlo : xs.length = n) (holds : ∀ j v, xs[j]? = some v → w.cell? ((⟨g, 0, none⟩ : Addr).add j) = some v) (hlim : n ≤ 4194304) (htab : Tab w) :
    Calls Tryd.prog 26 #[.slice (some ⟨g, 0, none⟩) n n, .int .u64 u, .int .i64 10] w fun e w' => ∃ v', e = .returned v' ∧ w'.ownsRow w.heap.size 5 1 v' (n + (Lib.decDigits u).length) (xs ++ Lib.byteCells (Lib.decDigits u)) ∧ Below w.heap.size w w' := by
  obtain ⟨i0, hi, hz0, hz1, hz2⟩ := info_parts infoByte
  have hu1 : 1 ≤ u := by omega
  have hnd20 : Lib.nDigits u ≤ 20 := nd20 u (by omega)
  have hndp : 1 ≤ Lib.nDigits u := Lib.nDigits_pos u
  have hal : Tryd.prog.arrayLen 63 = 24 := by kernel_rfl
  have hsl : ∀ W, (Instr.sliceAt 63 (.pointer (some ⟨w.heap.size, 0, none⟩)) none (some (.int .i64 (Lib.nDigits u : Int))) none).run Tryd.prog W = .ok (.slice (some ⟨w.heap.size, 0, none⟩) (Lib.nDigits u) 24) W := fun W => by
    rw [run_sliceAt_array_h W 63 ⟨w.heap.size, 0, none⟩ (by kernel_rfl) .i64 (Lib.nDigits u : Int) (by omega) (by rw [hal]; omega)]
    go_simp
  have hH0 := Lib.holds_zero0 w 63 (Lib.nDigits u) (by omega)
  have hfmt := Tryd.internal_strconv_formatBase10 w.heap.size 0 24 u (Array.replicate (Lib.nDigits u) 0) (w.alloc (.cells Lib.zeros24 63)) hH0 (by rw [Array.size_replicate]; exact Lib.lt_pow_nDigits u) hu64 (by rw [Array.size_replicate]; omega)
  rw [Array.size_replicate] at hfmt
  have HH0 := Lib.hid hH0
  have iu : (100 : Int) ≤ (u : Int) := by omega
  have HT := Lib.hid (Lib.tabIs_alloc htab (.cells Lib.zeros24 63))
  have HO := Lib.hid holds
  clear hH0 hal htab holds
  go_enter Tryd.func26, Tryd.ntmps26
  go_wp2_with (first
    | (go_at_call 28; refine (Tryd.internal_strconv_numDigits u hu1 hu64 _ HT.out).mono ?_; rintro e w' ⟨rfl, rfl⟩))
  refine hfmt.mono ?_
  rintro e w' ⟨rfl, k, v', dk, rfl, hF⟩
  have hcells : ∀ j u', (Lib.byteCells (Lib.decDigits u))[j]? = some u' → ((putRow (fun (b : UInt8) => Value.int .u8 (b.toNat : Int)) (w.alloc (.cells Lib.zeros24 63)) w.heap.size 0 dk).drewN k).cell? ((⟨w.heap.size, 0, none⟩ : Addr).add j) = some u' := by
    intro j u' hj
    have hjl : j < (Lib.decDigits u).length := by
      have h5 := (List.getElem?_eq_some_iff.1 hj).1
      rwa [Lib.byteCells_length] at h5
    have e5 : (Lib.byteCells (Lib.decDigits u))[j]? = some (Value.int .u8 ((Lib.decDigits u)[j].toNat : Int)) := by simp [Lib.byteCells, hjl]
    rw [e5] at hj
    cases hj
    rw [Lib.row_is_numeral hF j hjl, Lib.add_plain, World.cell?_drewN]
    exact cell?_putRow (fun (b : UInt8) => Value.int .u8 (b.toNat : Int)) _ w.heap.size 0 _ dk HH0.out (by rw [hF.size, Array.size_replicate]) j (by rw [hF.size]; rw [Lib.decDigits_length] at hjl; exact hjl)
  obtain ⟨os, eo⟩ := Lib.fin_at w (.cells Lib.zeros24 63) dk k 0
  have hnx2 : Below w.heap.size w ((putRow (fun (b : UInt8) => Value.int .u8 (b.toNat : Int)) (w.alloc (.cells Lib.zeros24 63)) w.heap.size 0 dk).drewN k) := by rw [eo]; exact Lib.below_grow w.heap.size w (Nat.le_refl _) k os
  generalize (putRow (fun (b : UInt8) => Value.int .u8 (b.toNat : Int)) (w.alloc (.cells Lib.zeros24 63)) w.heap.size 0 dk).drewN k = W2 at hcells hnx2 ⊢
  clear eo HH0 hfmt HT
  have holds2 : ∀ b, some (⟨g, 0, none⟩ : Addr) = some b → ∀ j u, xs[j]? = some u → W2.cell? (b.add j) = some u := by
    intro b hb j u' hj
    cases hb
    rw [hnx2.cell (p := (⟨g, 0, none⟩ : Addr).add j) (by rw [Addr.add_lit]; exact hgw)]
    exact HO.out j u' hj
  go_wp2_with (at_builtin; refine wpList_append_grows _ rfl _ _ 22 rfl 5 i0 (.int .u8 0) 1 1 Tryd.underlying22 hi hz0 hz1 hz2 rfl (by decide) (some ⟨g, 0, none⟩) n n xs rfl (fun h => by cases h) (by omega) holds2 ⟨w.heap.size, 0, none⟩ (Lib.nDigits u) 24 (Lib.byteCells (Lib.decDigits u)) rfl ?c0 hcells ?c2 ?c6 ?c3 ?c4 ?_)
  case c0 => rw [Lib.byteCells_length, Lib.decDigits_length, Nat.mul_one]
  case c2 => intro u' hu'; simp only [Lib.byteCells, List.mem_map] at hu'; obtain ⟨b, _, rfl⟩ := hu'; rfl
  case c6 => omega
  case c3 => unfold maxLen; omega
  case c4 => omega
  intro v2 w3 hown' hgrow
  go_wp2
  go_ret
  refine ⟨v2, rfl, ?_, hnx2.grown hgrow hnx2.size (fun k hk => by cases hk)⟩
  rw [Lib.decDigits_length]
  exact ownsRow_down hown' hnx2.size
end Go.Proofs.Qxb6614854aDoor
