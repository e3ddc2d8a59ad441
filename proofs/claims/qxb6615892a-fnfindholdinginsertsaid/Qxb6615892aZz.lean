/-
  ZZfindHolding (seat b6615892a).
-/
import Derived.Test.Qxb6615892aFind
import Derived.Deep.RegionHeld3
namespace Go.Proofs.Qxb6615892a
open Go.RowKit
set_option linter.unusedVariables false
set_option linter.unusedSimpArgs false

/-- A slice of strings, read. -/
def Ws (w : World) (a : Option Addr) (l : List ByteArray) : Prop := ∀ k (h : k < l.length), ∃ g off, a = some ⟨g, off, none⟩ ∧ g < w.heap.size ∧ w.cell? ⟨g, off + k, none⟩ = some (.string l[k])
theorem Ws.on {w w' : World} {a : Option Addr} {l : List ByteArray} (h : Ws w a l) (hb : Below w.heap.size w w') : Ws w' a l := fun k hk => by
  obtain ⟨g, off, e, hg, hc⟩ := h k hk
  exact ⟨g, off, e, Nat.lt_of_lt_of_le hg hb.size, (hb.cell (p := ⟨g, off + k, none⟩) hg).trans hc⟩

theorem info42 : (Try.prog.info? 42).map (fun i => (i.zero, i.size, i.bytes)) = some (some (.agg (hold ⟨#[]⟩ ⟨#[]⟩).toArray), 24, 248) := by kernel_rfl
theorem info9 : (Try.prog.info? 9).map (fun i => (i.zero, i.size, i.bytes)) = some (some (.string ⟨#[]⟩), 1, 16) := by kernel_rfl
theorem info_parts {o : Option TypeInfo} {z : Option Value} {s b : Nat} (h : o.map (fun i => (i.zero, i.size, i.bytes)) = some (z, s, b)) : ∃ i, o = some i ∧ i.zero = z ∧ i.size = s ∧ i.bytes = b := by
  cases o with
  | none => simp at h
  | some i => simp at h; exact ⟨i, rfl, h.1, h.2.1, h.2.2⟩

theorem made_there {w : World} {B g n e z : Nat} {xs : List Value} (h : w.ownsRow B e z (.slice (some ⟨g, 0, none⟩) n n) n xs) : ∀ j, j < n * z → (w.cell? ⟨g, j, none⟩).isSome = true ∧ w.frozen? ⟨g, j, none⟩ = false := by
  rcases h.2 with ⟨h', _⟩ | ⟨g', cap', cur, h', _, hh, _, _, hs, _⟩
  · simp at h'
  · simp only [Value.slice.injEq, Option.some.injEq, Addr.mk.injEq, and_true, true_and] at h'
    obtain ⟨rfl, rfl⟩ := h'
    intro j hj
    refine ⟨?_, ?_⟩
    · rw [cell_of_row w g j cur e (0, 0) hh, Array.getElem?_eq_getElem (by omega)]; rfl
    · simp [World.frozen?, hh]

theorem there_row {w : World} {g n : Nat} (h : ∀ j, j < n * 24 → (w.cell? ⟨g, j, none⟩).isSome = true ∧ w.frozen? ⟨g, j, none⟩ = false) (k : Nat) (hk : k < n) : w.there g (k * 24) 24 := fun j hj => h _ (by omega)

theorem build42 (s i : ByteArray) (w : World) : (Instr.build 42 #[(0, .string s), (1, .string i)]).run Try.prog w = .ok (.agg (hold s i).toArray) w := by
  refine run_build w 42 _ _ ?_
  kernel_rfl

theorem ht42 (w : World) : (w.alloc (.cells (hold ⟨#[]⟩ ⟨#[]⟩).toArray 42)).there w.heap.size 0 24 := fun j hj => by
  rw [Nat.zero_add]
  refine ⟨?_, World.frozen?_alloc_new _ _ _ _⟩
  rw [World.cell?_alloc_new, List.getElem?_toArray, List.getElem?_eq_getElem (by rw [hold_length]; exact hj)]
  rfl

theorem end42 (B : Nat) (w w2 : World) (b2 : Below B w w2) (hB : B ≤ w2.heap.size) (X Y : ByteArray) : Below B w ((w2.alloc (.cells (hold ⟨#[]⟩ ⟨#[]⟩).toArray 42)).setCells w2.heap.size 0 (hold X Y)) ∧
    ((w2.alloc (.cells (hold ⟨#[]⟩ ⟨#[]⟩).toArray 42)).setCells w2.heap.size 0 (hold X Y)).cell? ⟨w2.heap.size, 0, none⟩ = some (.string X) ∧ ((w2.alloc (.cells (hold ⟨#[]⟩ ⟨#[]⟩).toArray 42)).setCells w2.heap.size 0 (hold X Y)).cell? ⟨w2.heap.size, 1, none⟩ = some (.string Y) := by
  have r3 := World.rangeAt_setCells_same _ _ _ (hold X Y) (ht42 w2)
  exact ⟨below_cells hB _ _ (b2.alloc hB _), r3 0 (.string X) rfl, r3 1 (.string Y) rfl⟩

set_option maxRecDepth 100000 in
set_option maxHeartbeats 3200000 in
theorem zzfind (a b : Option Addr) (n ca cb : Nat) (S I : List ByteArray) (sec : ByteArray) (w : World) (hn : n ≤ 65537) (hS : S.length = n) (hI : I.length = n) (ha : Ws w a S) (hb : Ws w b I) :
    Calls Try.prog 12 #[.slice a n ca, .slice b n cb, .string sec] w fun e w' => e = .returned (.tuple #[.string (fnd sec (S.zip I)).1, .string (fnd sec (S.zip I)).2.1, .bool (fnd sec (S.zip I)).2.2]) ∧ Below w.heap.size w w' := by
  obtain ⟨i0, hi0, hz0, hz1, hz2⟩ := info_parts info42
  have HH := Lib.hid (And.intro ha hb)
  have HZ := Lib.hid (And.intro hi0 (And.intro hz0 (And.intro hz1 hz2)))
  clear ha hb hi0 hz0 hz1 hz2
  have hlz : (S.zip I).length = n := by simp [hS, hI]
  obtain ⟨L, hL⟩ : ∃ L, L = S.zip I := ⟨_, rfl⟩
  rw [← hL] at hlz ⊢
  have hget : ∀ k (h : k < L.length), L[k] = (S[k]'(by omega), I[k]'(by omega)) := by intro k h; subst hL; simp
  have HL := Lib.hid hget
  clear hget hL
  go_enter Try.func12, Try.ntmps12
  go_wp2_with (at_make; refine wpList_make_full _ rfl _ _ 31 rfl w.heap.size 42 i0 (.agg (hold ⟨#[]⟩ ⟨#[]⟩).toArray) 24 Try.underlying31 HZ.out.1 HZ.out.2.1 HZ.out.2.2.1 .i64 .i64 _ _ n rfl rfl rfl rfl (by rw [HZ.out.2.2.2]; omega) (by unfold maxLen; omega) (Nat.le_refl _) ?_)
  intro m hown hgrow
  have bm : Below w.heap.size w m := (Below.refl _ _).grown hgrow (Nat.le_refl _) (fun k hk => by cases hk)
  have th := made_there hown
  have hlm : w.heap.size < m.heap.size := by
    rcases hown.2 with ⟨h', _⟩ | ⟨g', cap', cur, h', _, hh, _⟩
    · simp at h'
    · simp only [Value.slice.injEq, Option.some.injEq, Addr.mk.injEq, and_true, true_and] at h'
      obtain ⟨rfl, rfl⟩ := h'
      exact (Array.getElem?_eq_some_iff.1 hh).1
  have HM := Lib.hid (And.intro bm (And.intro th hlm))
  clear bm th hown hgrow hlm
  go_wp2_with fail
  go_loopw [18] (fun i wr => ∃ k : Nat, k ≤ n ∧ i = .int .i64 k ∧ Hid (Below w.heap.size w wr ∧ w.heap.size < wr.heap.size ∧ (∀ j, j < n → wr.there w.heap.size (j * 24) 24) ∧ ∀ j (h : j < L.length), j < k → wr.rangeAt w.heap.size (j * 24) (hold L[j].1 L[j].2))) (fun i _ => n - (RowKit.intOf i).toNat)
  case atStart => exact ⟨0, Nat.zero_le _, rfl, Lib.hid ⟨HM.out.1, HM.out.2.2, fun j hj => there_row HM.out.2.1 j hj, fun j _ hj => absurd hj (Nat.not_lt_zero _)⟩⟩
  case round =>
    obtain ⟨k, hk, rfl, HR⟩ := hrel
    clear HM HZ
    by_cases hlt : k < n
    · obtain ⟨ga, oa, rfl, hga, qa⟩ := HH.out.1 k (by omega)
      obtain ⟨gb, ob, rfl, hgb, qb⟩ := HH.out.2 k (by omega)
      have qa' := (HR.out.1.cell (p := ⟨ga, oa + k, none⟩) hga).trans qa
      have qb' := (HR.out.1.cell (p := ⟨gb, ob + k, none⟩) hgb).trans qb
      have tk := HR.out.2.2.1 k hlt
      have hLk := HL.out k (by omega)
      obtain ⟨s, hs⟩ : ∃ s, s = S[k]'(by omega) := ⟨_, rfl⟩
      obtain ⟨i, hi⟩ : ∃ i, i = I[k]'(by omega) := ⟨_, rfl⟩
      rw [← hs, ← hi] at hLk
      rw [← hs] at qa'
      rw [← hi] at qb'
      have HK := Lib.hid hLk
      clear qa qb hs hi hLk
      have na : ga ≠ w.heap.size := by omega
      have nb : gb ≠ w.heap.size := by omega
      have b0 : (0 : Int) ≤ (k : Int) := by omega
      have b1 : (k : Int) < (n : Int) := by omega
      have hu := Try.underlying42
      have hsz : (Try.prog.info? 42).map (·.size) = some (hold s i).length := size42
      have hl24 := hold_length s i
      have h1c := hold_one s i
      obtain ⟨g, hg⟩ : ∃ g, g = w.heap.size := ⟨_, rfl⟩
      rw [← hg] at tk na nb ⊢
      have HG := Lib.hid hg
      clear hg
      go_wp2_with fail
      refine wp_region_noPanic ?_
      refine wp_region_held_drew (S := fun w' => w'.cell? ⟨ga, oa + k, none⟩ = some (.string s) ∧ w'.cell? ⟨gb, ob + k, none⟩ = some (.string i)) (by kernel_rfl) ⟨by simpa using qa', by simpa using qb'⟩ (fun hHeld => ?_)
      change wpAnyH _ _ _ _ _ 13 (Array.replicate 13 false) _ _
      refine wpAnyH_take (i := 0) (v := .slice (some ⟨g, 0, none⟩) n n) (hi := by (simp only [List.getElem?_toArray, List.getElem?_cons_zero, List.getElem?_cons_succ]; rfl)) (by kernel_rfl) (by kernel_rfl) (by kernel_rfl) (fun _ _ _ h => h) (Or.inl ⟨by rfl, ?_⟩) (by assumption) ?_
      · (intro w hSw; (try dsimp only at hSw); go_simp)
      simp only [Act.put, List.setIfInBounds_toArray, List.set_cons_zero, List.set_cons_succ]
      refine wpAnyH_take (i := 1) (v := .int .i64 k) (hi := by (simp only [List.getElem?_toArray, List.getElem?_cons_zero, List.getElem?_cons_succ]; rfl)) (by kernel_rfl) (by kernel_rfl) (by kernel_rfl) (fun _ _ _ h => h) (Or.inl ⟨by rfl, ?_⟩) (by assumption) ?_
      · (intro w hSw; (try dsimp only at hSw); go_simp)
      simp only [Act.put, List.setIfInBounds_toArray, List.set_cons_zero, List.set_cons_succ]
      refine wpAnyH_take (i := 2) (v := .slice (some ⟨ga, oa, none⟩) n ca) (hi := by (simp only [List.getElem?_toArray, List.getElem?_cons_zero, List.getElem?_cons_succ]; rfl)) (by kernel_rfl) (by kernel_rfl) (by kernel_rfl) (fun _ _ _ h => h) (Or.inl ⟨by rfl, ?_⟩) (by assumption) ?_
      · (intro w hSw; (try dsimp only at hSw); go_simp)
      simp only [Act.put, List.setIfInBounds_toArray, List.set_cons_zero, List.set_cons_succ]
      refine wpAnyH_take (i := 3) (v := .int .i64 k) (hi := by (simp only [List.getElem?_toArray, List.getElem?_cons_zero, List.getElem?_cons_succ]; rfl)) (by kernel_rfl) (by kernel_rfl) (by kernel_rfl) (fun _ _ _ h => h) (Or.inl ⟨by rfl, ?_⟩) (by assumption) ?_
      · (intro w hSw; (try dsimp only at hSw); go_simp)
      simp only [Act.put, List.setIfInBounds_toArray, List.set_cons_zero, List.set_cons_succ]
      refine wpAnyH_take (i := 4) (v := .pointer (some ⟨ga, oa + k, none⟩)) (hi := by (simp only [List.getElem?_toArray, List.getElem?_cons_zero, List.getElem?_cons_succ]; rfl)) (by kernel_rfl) (by kernel_rfl) (by kernel_rfl) (fun _ _ _ h => h) (Or.inl ⟨by rfl, ?_⟩) (by assumption) ?_
      · (intro w hSw; (try dsimp only at hSw); go_simp)
      simp only [Act.put, List.setIfInBounds_toArray, List.set_cons_zero, List.set_cons_succ]
      refine wpAnyH_take (i := 5) (v := .string s) (hi := by (simp only [List.getElem?_toArray, List.getElem?_cons_zero, List.getElem?_cons_succ]; rfl)) (by kernel_rfl) (by kernel_rfl) (by kernel_rfl) (fun _ _ _ h => h) (Or.inl ⟨by rfl, ?_⟩) (by assumption) ?_
      · (intro w hSw; (try dsimp only at hSw); go_simp)
      simp only [Act.put, List.setIfInBounds_toArray, List.set_cons_zero, List.set_cons_succ]
      refine wpAnyH_take (i := 6) (v := .slice (some ⟨gb, ob, none⟩) n cb) (hi := by (simp only [List.getElem?_toArray, List.getElem?_cons_zero, List.getElem?_cons_succ]; rfl)) (by kernel_rfl) (by kernel_rfl) (by kernel_rfl) (fun _ _ _ h => h) (Or.inl ⟨by rfl, ?_⟩) (by assumption) ?_
      · (intro w hSw; (try dsimp only at hSw); go_simp)
      simp only [Act.put, List.setIfInBounds_toArray, List.set_cons_zero, List.set_cons_succ]
      refine wpAnyH_take (i := 7) (v := .int .i64 k) (hi := by (simp only [List.getElem?_toArray, List.getElem?_cons_zero, List.getElem?_cons_succ]; rfl)) (by kernel_rfl) (by kernel_rfl) (by kernel_rfl) (fun _ _ _ h => h) (Or.inl ⟨by rfl, ?_⟩) (by assumption) ?_
      · (intro w hSw; (try dsimp only at hSw); go_simp)
      simp only [Act.put, List.setIfInBounds_toArray, List.set_cons_zero, List.set_cons_succ]
      refine wpAnyH_take (i := 8) (v := .pointer (some ⟨gb, ob + k, none⟩)) (hi := by (simp only [List.getElem?_toArray, List.getElem?_cons_zero, List.getElem?_cons_succ]; rfl)) (by kernel_rfl) (by kernel_rfl) (by kernel_rfl) (fun _ _ _ h => h) (Or.inl ⟨by rfl, ?_⟩) (by assumption) ?_
      · (intro w hSw; (try dsimp only at hSw); go_simp)
      simp only [Act.put, List.setIfInBounds_toArray, List.set_cons_zero, List.set_cons_succ]
      refine wpAnyH_take (i := 9) (v := .string i) (hi := by (simp only [List.getElem?_toArray, List.getElem?_cons_zero, List.getElem?_cons_succ]; rfl)) (by kernel_rfl) (by kernel_rfl) (by kernel_rfl) (fun _ _ _ h => h) (Or.inl ⟨by rfl, ?_⟩) (by assumption) ?_
      · (intro w hSw; (try dsimp only at hSw); go_simp)
      simp only [Act.put, List.setIfInBounds_toArray, List.set_cons_zero, List.set_cons_succ]
      refine wpAnyH_take (i := 10) (v := .agg (hold s i).toArray) (hi := by (simp only [List.getElem?_toArray, List.getElem?_cons_zero, List.getElem?_cons_succ]; rfl)) (by kernel_rfl) (by kernel_rfl) (by kernel_rfl) (fun _ _ _ h => h) (Or.inl ⟨by rfl, ?_⟩) (by assumption) ?_
      · (intro w hSw; unfold execOp; simp only [Sem.run_bind, List.map_toArray, List.map_cons, List.map_nil]; refine Eq.trans (congrArg (fun r => Result.andThen r _) (build42 s i w)) rfl)
      simp only [Act.put, List.setIfInBounds_toArray, List.set_cons_zero, List.set_cons_succ]
      refine wpAnyH_take (i := 11) (v := .pointer (some ⟨g, k * 24, none⟩)) (hi := by (simp only [List.getElem?_toArray, List.getElem?_cons_zero, List.getElem?_cons_succ]; rfl)) (by kernel_rfl) (by kernel_rfl) (by kernel_rfl) (fun _ _ _ h => h) (Or.inl ⟨by rfl, ?_⟩) (by assumption) ?_
      · (intro w hSw; (try dsimp only at hSw); go_simp)
      simp only [Act.put, List.setIfInBounds_toArray, List.set_cons_zero, List.set_cons_succ]
      refine wpAnyH_ready (rs := [12]) (by kernel_rfl) (by simp) ?_
      refine AllReadyH.cons (ho := by (simp only [List.getElem?_toArray, List.getElem?_cons_zero, List.getElem?_cons_succ]; rfl)) (fun K hK => ?_) AllReadyH.nil
      rw [if_pos (by rfl)]
      refine wp_store_mid 42 (.tmp 32) (.tmp 31) rfl g (k * 24) (hold s i).toArray rfl rfl ((World.there_drew _ _ _ _).2 tk) size42 (all_oneCell_toArray h1c) ?_
      refine hK.out _ _ ⟨?_, ?_⟩ (fun _ => ?_)
      · rw [World.cell?_setCells_out _ _ _ _ _ (fun h => absurd h na)]; exact hHeld.1
      · rw [World.cell?_setCells_out _ _ _ _ _ (fun h => absurd h nb)]; exact hHeld.2
      refine wpAnyH_done (by kernel_rfl) ?_ _
      refine NoPanic.normal ?_
      simp only [Act.put, List.setIfInBounds_toArray, List.set_cons_zero, List.set_cons_succ]
      go_wp2_with fail
      go_roundw
      case rel =>
        have eg := HG.out
        subst eg
        refine ⟨k + 1, by omega, by go_num, Lib.hid ⟨below_cells (Nat.le_refl _) _ _ HR.out.1.drew, ?_, fun j hj => World.there_setCells ((World.there_drew _ _ _ _).2 (HR.out.2.2.1 j hj)) _ _ _, fun j h hj => ?_⟩⟩
        · exact Nat.lt_of_lt_of_le HR.out.2.1 (below_cells (B := 0) (Nat.zero_le _) _ _ (Below.refl 0 wr.drew)).size
        · by_cases e : j = k
          · subst e; rw [HK.out]; exact World.rangeAt_setCells_same _ _ _ _ ((World.there_drew _ _ _ _).2 tk)
          · exact World.rangeAt_setCells_apart ((World.rangeAt_drew _ _ _ _).2 (HR.out.2.2.2 j h (by omega))) _ _ _ (.inr (by simp only [hold_length]; omega))
      case measure => simp [RowKit.intOf]; omega
    · obtain rfl : k = n := by omega
      go_wp2_with fail
      refine (findH w.heap.size k k L sec _ hn hlz HR.out.2.1 (fun j h => HR.out.2.2.2 j h (by omega))).mono ?_
      rintro e w2 ⟨rfl, hb2⟩
      obtain ⟨X, Y, ok, hfd⟩ : ∃ X Y ok, fnd sec L = (X, Y, ok) := ⟨_, _, _, rfl⟩
      have HF := Lib.hid hfd
      rw [hfd]
      clear hfd
      have ht := ht42 w2
      have b2 := HR.out.1.trans (hb2.mono HR.out.1.size)
      have HT := Lib.hid (And.intro ht (end42 _ _ _ b2 b2.size X Y))
      clear ht b2 hb2
      go_wp2_with (refine wpList_store_mid rfl 42 (.tmp 11) (.tmp 38) rfl w2.heap.size 0 (hold X Y).toArray rfl rfl ?_ ?_ ?_ ?_; all_goals refine Hid.out ?_)
      · exact Lib.hid HT.out.1
      · exact Lib.hid size42
      · exact Lib.hid (all_oneCell_toArray (hold_one _ _))
      refine Lib.hid ?_
      have hT := HT.out.2
      clear HT
      change wpList _ _ _ _ _ ((w2.alloc (.cells (hold ⟨#[]⟩ ⟨#[]⟩).toArray 42)).setCells w2.heap.size 0 (hold X Y))
      generalize (w2.alloc (.cells (hold ⟨#[]⟩ ⟨#[]⟩).toArray 42)).setCells w2.heap.size 0 (hold X Y) = w3 at hT
      obtain ⟨b3, c0, c1⟩ := hT
      generalize w2.heap.size = g3 at c0 c1
      have HB := Lib.hid b3
      clear b3
      go_wp2_with fail
      go_quiet (fail)
      go_wp2_with fail
      go_ret3
      rw [HF.out]
      exact ⟨rfl, below_drewN HB.out _⟩
end Go.Proofs.Qxb6615892a
