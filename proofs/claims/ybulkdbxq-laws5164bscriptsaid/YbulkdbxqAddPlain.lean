/-
  The first loop of LawS5164BAdd: what stands after k rounds, and that one round carries it on. No walk here.
-/
import Derived.Test.YbulkdbxqState
import Derived.Deep.OwnRows
namespace Go.Proofs.Ybulkdbxq
open Go.RowKit Go.MuLone

/-- After k rounds of the first loop. -/
def Filled (B n : Nat) (cl : Bool) (w wr : World) (k : Nat) : Prop :=
  ∃ (ps : List Nat) (ov : Value) (cur : Array Value), ps.length = k ∧ Below B w wr ∧ wr.heap[B]? = some (.cells cur 35 (0, 0)) ∧ cur.size = n ∧ (∀ i, i < k → cur[i]? = some (ptr (ps.getD i 0))) ∧
    wr.heap[B + 1]? = some (cns 0 ov cl) ∧ wr.ownsRow (B + 2) 37 1 ov k (ps.map ifc) ∧ (∀ i, i < k → B + 2 ≤ ps.getD i 0 ∧ wr.heap[ps.getD i 0]? = some (conn 0)) ∧ B + 2 ≤ wr.heap.size

theorem filled_start (n : Nat) (cl : Bool) (w : World) :
    Filled w.heap.size n cl w ((w.alloc (.cells (madeCells #[.pointer none] n) 35)).alloc (.cells #[.int .i32 0, .int .u32 0, .slice none 0 0, .bool cl] 34)) 0 :=
  ⟨[], .slice none 0 0, _, rfl, ((Below.refl _ _).alloc (Nat.le_refl _) _).alloc (by simp) _, heap_alloc2_old _ _ _, size_madeCells _ _, fun i hi => by omega, heap_alloc2_new _ _ _, World.ownsRow_nil _ _ _ _, fun i hi => by omega, by simp⟩

/-- The world ahead of the append: the new connection is made and stored among the old ones. -/
theorem ahead {B n k : Nat} {cl : Bool} {wr : World} {cur : Array Value} {ov : Value} {xs : List Value} (hO : wr.heap[B]? = some (.cells cur 35 (0, 0)))
    (hC : wr.heap[B + 1]? = some (cns 0 ov cl)) (hown : wr.ownsRow (B + 2) 37 1 ov n xs) {W : World} (hW : (wr.setCell ⟨B, k, none⟩ (ptr wr.heap.size)).alloc (conn 0) = W) :
    W.heap[B]? = some (.cells (cur.setIfInBounds k (ptr wr.heap.size)) 35 (0, 0)) ∧ W.heap[B + 1]? = some (cns 0 ov cl) ∧ W.ownsRow (B + 2) 37 1 ov n xs ∧ W.heap[wr.heap.size]? = some (conn 0) ∧
      Kept (fun b => b = B) wr W ∧ W.heap.size = wr.heap.size + 1 := by
  subst hW
  have hs : (wr.setCell ⟨B, k, none⟩ (ptr wr.heap.size)).heap.size = wr.heap.size := by simp [World.setCell]
  have hk : Kept (fun b => b = B) wr ((wr.setCell ⟨B, k, none⟩ (ptr wr.heap.size)).alloc (conn 0)) := ((Kept.refl (fun b => b = B) wr).setCell ⟨B, k, none⟩ rfl _).alloc _
  refine ⟨?_, hk.obj hC (by omega), hk.row hown (fun g hg e => ?_), ?_, hk, by simp⟩
  · exact (Below.heap_alloc _ _ _ (by rw [hs]; exact lt_obj hO)).trans (heap_setCell_same wr B k cur 35 _ hO)
  · subst e; exact ne_tag hown hO (by decide) hg
  · have := heap_alloc_new (wr.setCell ⟨B, k, none⟩ (ptr wr.heap.size)) (conn 0)
    rwa [hs] at this

theorem getD_snoc (ps : List Nat) (p i : Nat) (h : i < ps.length) : (ps ++ [p]).getD i 0 = ps.getD i 0 := by
  rw [List.getD_eq_getElem?_getD, List.getD_eq_getElem?_getD, List.getElem?_append_left h]
theorem getD_last (ps : List Nat) (p : Nat) : (ps ++ [p]).getD ps.length 0 = p := by
  rw [List.getD_eq_getElem?_getD, List.getElem?_append_right (Nat.le_refl _)]; simp

/-- One round on. -/
theorem filled_step {B n k : Nat} {cl : Bool} {w wr W W2 : World} {ps : List Nat} {ov ov2 : Value} {cur : Array Value} (hkn : k < n) (hps : ps.length = k) (hbel : Below B w wr)
    (hO : wr.heap[B]? = some (.cells cur 35 (0, 0))) (hcs : cur.size = n) (hcur : ∀ i, i < k → cur[i]? = some (ptr (ps.getD i 0))) (hC : wr.heap[B + 1]? = some (cns 0 ov cl))
    (hown : wr.ownsRow (B + 2) 37 1 ov k (ps.map ifc)) (hconn : ∀ i, i < k → B + 2 ≤ ps.getD i 0 ∧ wr.heap[ps.getD i 0]? = some (conn 0)) (hsz : B + 2 ≤ wr.heap.size)
    (hW : (wr.setCell ⟨B, k, none⟩ (ptr wr.heap.size)).alloc (conn 0) = W)
    (hK : Kept (fun b => b = B + 1 ∨ ov.ownBlock = some b) W W2) (hC2 : W2.heap[B + 1]? = some (cns 0 ov2 cl)) (hown2 : W2.ownsRow (B + 2) 37 1 ov2 (k + 1) (ps.map ifc ++ [ifc wr.heap.size])) :
    Filled B n cl w W2 (k + 1) := by
  obtain ⟨a1, a2, a3, a4, a5, a6⟩ := ahead hO hC hown hW
  have hnB : ¬ (B = B + 1 ∨ ov.ownBlock = some B) := by
    rintro (h | h)
    · omega
    · exact ne_tag a3 a1 (by decide) h
  have hnc : ∀ {p : Nat}, W.heap[p]? = some (conn 0) → ¬ (p = B + 1 ∨ ov.ownBlock = some p) := by
    rintro p hp (h | h)
    · subst h; rw [a2] at hp; simp [cns, conn] at hp
    · exact ne_tag a3 hp (by decide) h
  refine ⟨ps ++ [wr.heap.size], ov2, cur.setIfInBounds k (ptr wr.heap.size), by simp [hps], ?_, hK.obj a1 hnB, by simpa using hcs, ?_, hC2, by simpa using hown2, ?_, by have := hK.size; omega⟩
  · refine hK.below (a5.below hbel (by omega) (fun k hk => by omega)) (by omega) ?_
    rintro b (h | h)
    · omega
    · have := (a3.lt b h).1; omega
  · intro i hi
    by_cases hik : i = k
    · subst hik
      rw [← hps, getD_last, Array.getElem?_setIfInBounds]
      simp [hps, hcs, hkn]
    · rw [getD_snoc _ _ _ (by omega), Array.getElem?_setIfInBounds]
      rw [if_neg (by omega)]
      exact hcur i (by omega)
  · intro i hi
    by_cases hik : i = k
    · subst hik
      rw [← hps, getD_last]
      exact ⟨hsz, hK.obj a4 (hnc a4)⟩
    · rw [getD_snoc _ _ _ (by omega)]
      obtain ⟨h1, h2⟩ := hconn i (by omega)
      have h3 := a5.obj h2 (by omega)
      exact ⟨h1, hK.obj h3 (hnc h3)⟩

/-- What the walk of one round is told. -/
theorem filled_round {B n k : Nat} {cl : Bool} {w wr : World} (h : Filled B n cl w wr k) (hkn : k < n) :
    ∃ (ov : Value) (xs : List Value) (old : Value), wr.cell? ⟨B, k, none⟩ = some old ∧ wr.frozen? ⟨B, k, none⟩ = false ∧ B < wr.heap.size ∧
      Hid (∀ W, (wr.setCell ⟨B, k, none⟩ (ptr wr.heap.size)).alloc (conn 0) = W →
        W.cell? ⟨B, k, none⟩ = some (ptr wr.heap.size) ∧ W.cell? ⟨B + 1, 2, none⟩ = some ov ∧ W.frozen? ⟨B + 1, 2, none⟩ = false ∧ W.ownsRow (B + 2) 37 1 ov k xs ∧ ov.ownBlock ≠ some B ∧ ov.ownBlock ≠ some (B + 1) ∧ B + 2 ≤ W.heap.size ∧
        Hid (∀ X W1 g cap, Kept (fun _ => False) W X → X.grownBy W1 ov.ownBlock → W1.ownsRow (B + 2) 37 1 (.slice (some ⟨g, 0, none⟩) (k + 1) cap) (k + 1) (xs ++ [ifc wr.heap.size]) → (ov.ownBlock = some g ∨ g = W.heap.size + 1) →
          Filled B n cl w (W1.setCell ⟨B + 1, 2, none⟩ (.slice (some ⟨g, 0, none⟩) (k + 1) cap)) (k + 1))) := by
  obtain ⟨ps, ov, cur, hps, hbel, hO, hcs, hcur, hC, hown, hconn, hsz⟩ := h
  refine ⟨ov, ps.map ifc, cur[k]'(by omega), ?_, frozen_of_row _ _ _ _ _ hO, lt_obj hO, ?_⟩
  · rw [cell_of_row _ _ _ _ _ _ hO]; simp
  intro W hW
  obtain ⟨a1, a2, a3, a4, a5, a6⟩ := ahead hO hC hown hW
  have n2 : ov.ownBlock ≠ some (B + 1) := ne_tag a3 a2 (by decide)
  refine ⟨?_, ?_, frozen_of_row _ _ _ _ _ a2, a3, ne_tag a3 a1 (by decide), n2, by omega, ?_⟩
  · rw [cell_of_row _ _ _ _ _ _ a1, Array.getElem?_setIfInBounds]; simp [hcs, hkn]
  · rw [cell_of_row _ _ _ _ _ _ a2]; rfl
  intro X W1 g cap hX hgrow hown1 hat
  have hlt := lt_obj a2
  have hK1 : Kept (fun b => b = B + 1 ∨ ov.ownBlock = some b) W W1 := (hX.mono (fun _ h => h.elim)).grown hgrow (fun k hk => Or.inr hk)
  have c1 : W1.heap[B + 1]? = some (cns 0 ov cl) := (hgrow.block (B + 1) (Nat.lt_of_lt_of_le hlt hX.size) (Ne.symm n2)).trans (hX.obj a2 (fun h => h))
  have hgc : g ≠ B + 1 := by
    rcases hat with h | h
    · intro e; subst e; exact n2 h
    · omega
  exact filled_step hkn hps hbel hO hcs hcur hC hown hconn hsz hW (hK1.setCell ⟨B + 1, 2, none⟩ (Or.inl rfl) _) (heap_setCell_same _ (B + 1) 2 _ _ _ c1) (hown1.kept (grownBy_setCell W1 ⟨B + 1, 2, none⟩ _) (Or.inr (by simpa [Value.ownBlock] using hgc)))

end Go.Proofs.Ybulkdbxq
