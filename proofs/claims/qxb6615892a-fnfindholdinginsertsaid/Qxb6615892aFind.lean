/-
  findHolding (seat b6615892a).
-/
import Derived.Test.Qxb6615892aIdx
import Derived.Laws.ResultCell
namespace Go.Proofs.Qxb6615892a
open Go.RowKit
set_option linter.unusedVariables false

/-- The first pair that bears the security; else two empty strings. -/
def fnd (sec : ByteArray) : List (ByteArray × ByteArray) → ByteArray × ByteArray × Bool
  | [] => (⟨#[]⟩, ⟨#[]⟩, false)
  | (s, i) :: r => if s.toList == sec.toList then (s, i, true) else fnd sec r

theorem fnd_miss (sec : ByteArray) : ∀ L : List (ByteArray × ByteArray), (∀ j (h : j < L.length), (L[j].1.toList == sec.toList) = false) → fnd sec L = (⟨#[]⟩, ⟨#[]⟩, false)
  | [], _ => rfl
  | (s, i) :: r, h => by
    have h0 := h 0 (by simp)
    simp only [List.getElem_cons_zero] at h0
    simp only [fnd, h0]
    exact fnd_miss sec r fun j hj => by have := h (j + 1) (by simp; omega); simpa using this

theorem fnd_hit (sec : ByteArray) : ∀ (L : List (ByteArray × ByteArray)) (k : Nat) (hk : k < L.length), (L[k].1.toList == sec.toList) = true → (∀ j (h : j < L.length), j < k → (L[j].1.toList == sec.toList) = false) → fnd sec L = (L[k].1, L[k].2, true)
  | (s, i) :: r, 0, _, hm, _ => by
    simp only [List.getElem_cons_zero] at hm
    simp [fnd, hm]
  | (s, i) :: r, k + 1, hk, hm, h => by
    have h0 := h 0 (by simp) (by omega)
    simp only [List.getElem_cons_zero] at h0
    simp only [fnd, h0]
    have := fnd_hit sec r k (by simpa using hk) (by simpa using hm) fun j hj hl => by have := h (j + 1) (by simp; omega) (by omega); simpa using this
    simpa using this

theorem below_cells {B b : Nat} {a : World} (hb : B ≤ b) : ∀ (vs : List Value) (o : Nat) {w : World}, Below B a w → Below B a (w.setCells b o vs)
  | [], _, _, h => h
  | v :: r, o, _, h => below_cells hb r (o + 1) (h.setCell (p := ⟨b, o, none⟩) hb v)

theorem box42 (B : Nat) (W W' : World) (hb : Below B W W') (o : Nat) (ho : o < B) (cs : List Value) (hc : ∀ j v, cs[j]? = some v → W.cell? ⟨o, j, none⟩ = some v) (hf : ∀ j, j < cs.length → W.frozen? ⟨o, j, none⟩ = false) : W'.there o 0 cs.length := fun j hj => by
  rw [Nat.zero_add]
  exact ⟨by rw [hb.cell (p := ⟨o, j, none⟩) ho, hc j _ (List.getElem?_eq_getElem hj)]; rfl, (hb.frozen (p := ⟨o, j, none⟩) ho).trans (hf j hj)⟩

theorem res14 (tmps : Array Value) (b : Nat) (cs : List Value) (ok : Bool) (w : World) (h4 : tmps.getD 4 undef = .pointer (some ⟨b, 0, none⟩)) (h5 : tmps.getD 5 undef = .bool ok) (hr : w.rangeAt b 0 cs) (hl : cs.length = 24) :
    (results Try.f14 tmps).run Try.prog w = .ok (.tuple #[.agg cs.toArray, .bool ok]) w := by
  have hl' := run_loadVar_mid (P := Try.prog) w b 0 42 cs _ hr Try.underlying42 rfl (by rw [hl]; exact size42)
  rw [results_cell_tmp rfl, h4, h5]
  simp [asAddr, hl']

set_option maxHeartbeats 3200000 in
theorem findH (g n cap : Nat) (L : List (ByteArray × ByteArray)) (sec : ByteArray) (w : World) (hn : n ≤ 65537) (hL : L.length = n) (hg : g < w.heap.size)
    (hr : ∀ k (h : k < L.length), w.rangeAt g (k * 24) (hold L[k].1 L[k].2)) :
    Calls Try.prog 14 #[.slice (some ⟨g, 0, none⟩) n cap, .string sec] w fun e w' => e = .returned (.tuple #[.agg (hold (fnd sec L).1 (fnd sec L).2.1).toArray, .bool (fnd sec L).2.2]) ∧ Below w.heap.size w w' := by
  have HH := Lib.hid hr
  clear hr
  have hz : ∀ X : Obj, Below w.heap.size w (w.alloc X) := fun X => (Below.refl _ _).alloc (Nat.le_refl _) X
  have hz2 : ∀ X Y : Obj, Below w.heap.size w ((w.alloc X).alloc Y) := fun X Y => (hz X).alloc (by simp) Y
  go_enter Try.func14, Try.ntmps14
  go_wp2_with fail
  obtain ⟨W1, hW1⟩ : ∃ W1, W1 = (w.alloc (.cells #[.string sec] 9)).alloc (.cells (hold ⟨#[]⟩ ⟨#[]⟩).toArray 42) := ⟨_, rfl⟩
  have hs1 : W1.heap.size = w.heap.size + 2 := by rw [hW1]; simp
  have b1 : Below w.heap.size w W1 := by rw [hW1]; exact hz2 _ _
  have c1 : W1.cell? ⟨w.heap.size, 0, none⟩ = some (.string sec) := by rw [hW1, World.cell?_alloc_old _ _ _ (by simp), World.cell?_alloc_new]; rfl
  have c2 : ∀ j v, (hold ⟨#[]⟩ ⟨#[]⟩)[j]? = some v → W1.cell? ⟨w.heap.size + 1, j, none⟩ = some v := fun j v hv => by
    rw [hW1, show w.heap.size + 1 = (w.alloc (.cells #[.string sec] 9)).heap.size by simp, World.cell?_alloc_new]
    simpa using hv
  have c3 : ∀ j, W1.frozen? ⟨w.heap.size + 1, j, none⟩ = false := fun j => by
    rw [hW1, show w.heap.size + 1 = (w.alloc (.cells #[.string sec] 9)).heap.size by simp]
    exact World.frozen?_alloc_new _ _ _ _
  have r1 : ∀ k (h : k < L.length), W1.rangeAt g (k * 24) (hold L[k].1 L[k].2) := fun k h j v hv => (b1.cell (p := ⟨g, k * 24 + j, none⟩) hg).trans (HH.out k h j v hv)
  change Calls Try.prog 15 _ ((w.alloc (.cells #[.string sec] 9)).alloc (.cells (hold ⟨#[]⟩ ⟨#[]⟩).toArray 42)) _
  rw [← hW1]
  refine (idxf g n cap _ L sec W1 hn hL (by omega) r1 c1).mono ?_
  rintro e w2 ⟨⟨r, rfl, hf⟩, hb2⟩
  have bw : Below w.heap.size w w2 := b1.trans (hb2.mono b1.size)
  have t2 : w2.there (w.heap.size + 1) 0 24 := box42 _ _ _ hb2 (w.heap.size + 1) (by omega) (hold ⟨#[]⟩ ⟨#[]⟩) c2 (fun j _ => c3 j)
  have HB := Lib.hid (And.intro bw (And.intro t2 hb2))
  clear bw t2 hb2 c1 c2 c3 hW1 hz hz2
  rcases hf with ⟨k, hk, rfl, hm, hno⟩ | ⟨rfl, hno⟩
  · have HE := Lib.hid (fnd_hit sec L k hk hm hno)
    clear hm hno
    have R2 : w2.rangeAt g (k * 24) (hold L[k].1 L[k].2) := fun j v hv => (HB.out.2.2.cell (p := ⟨g, k * 24 + j, none⟩) (show g < W1.heap.size by omega)).trans (r1 k hk j v hv)
    have HR := Lib.hid R2
    clear R2 r1
    obtain ⟨s, i, hsi⟩ : ∃ s i, L[k] = (s, i) := ⟨_, _, rfl⟩
    rw [hsi] at HR HE
    have b1 : (k : Int) < (n : Int) := by omega
    have b2 : ¬ (k : Int) < 0 := by omega
    go_wp2_with first | (refine wpList_load_mid rfl 42 (.tmp 15) rfl g (k * 24) rfl (hold s i) _ HR.out Try.underlying42 rfl size42 ?_) | (refine wpList_store_mid rfl 42 (.tmp 4) (.tmp 16) rfl (w.heap.size + 1) 0 (hold s i).toArray rfl rfl HB.out.2.1 size42 (all_oneCell_toArray (hold_one s i)) ?_)
    refine bodyPost_ret (res14 _ (w.heap.size + 1) (hold s i) true _ rfl rfl (World.rangeAt_setCells_same _ _ _ _ HB.out.2.1) rfl) rfl ⟨?_, ?_⟩
    · rw [HE.out]
    · exact below_cells (by omega) _ _ HB.out.1
  · have HE := Lib.hid (fnd_miss sec L hno)
    clear hno r1
    go_wp2_with first | (refine wpList_store_mid rfl 42 (.tmp 4) (.tmp 12) rfl (w.heap.size + 1) 0 (hold ⟨#[]⟩ ⟨#[]⟩).toArray rfl rfl HB.out.2.1 size42 (all_oneCell_toArray (hold_one _ _)) ?_)
    refine bodyPost_ret (res14 _ (w.heap.size + 1) (hold ⟨#[]⟩ ⟨#[]⟩) false _ rfl rfl (World.rangeAt_setCells_same _ _ _ _ HB.out.2.1) rfl) rfl ⟨?_, ?_⟩
    · rw [HE.out]
    · exact below_cells (by omega) _ _ HB.out.1
end Go.Proofs.Qxb6615892a
