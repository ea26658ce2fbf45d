/-
  LawS5164BAdd behind its first loop: what the walk is told, ahead of the call of add and behind it. And '!=' between two interface values that bear one pointer. No walk here.
-/
import Derived.Test.YbulkdbxqAddPlain
import Derived.LaidEql
namespace Go.Proofs.Ybulkdbxq
open Go.RowKit Go.MuLone

theorem run_neq_iface_ptr_same {P : Program} (w : World) {ti tp te : TypeId} {ms : Array (String × TypeId)} {i j : TypeInfo} (a : Addr)
    (hi : P.underlying ti = some (.interface ms)) (hp : P.underlying tp = some (.pointer te)) (htp : P.info? tp = some i) (hcmp : i.comparable = true) (hte : P.info? te = some j) :
    (binOp .neq ti (.iface tp (.pointer (some a))) (.iface tp (.pointer (some a)))).run P w = .ok (.bool false) w := by
  simp only [binOp]
  simp [Op.equal, Op.maxDepth, run_equalIn_iface_ptr_same w 9998 a hi hp htp hcmp hte]

theorem comp35 : ∃ i, Yba.prog.info? 35 = some i ∧ i.comparable = true := by
  have h : (Yba.prog.info? 35).map (fun i => i.comparable) = some true := by kernel_rfl
  cases hj : Yba.prog.info? 35 with
  | none => rw [hj] at h; simp at h
  | some j => rw [hj] at h; exact ⟨j, rfl, by simpa using h⟩
theorem some39 : ∃ i, Yba.prog.info? 39 = some i := Option.isSome_iff_exists.1 (by kernel_rfl)

theorem neq_ifc (p : Nat) (w : World) : (binOp .neq 37 (.iface 35 (.pointer (some ⟨p, 0, none⟩))) (.iface 35 (.pointer (some ⟨p, 0, none⟩)))).run Yba.prog w = .ok (.bool false) w := by
  obtain ⟨i, hi, hc⟩ := comp35
  obtain ⟨j, hj⟩ := some39
  exact run_neq_iface_ptr_same w ⟨p, 0, none⟩ Yba.underlying37 Yba.underlying35 hi hc hj

/-- A row's cells at a plain address. -/
theorem row_cell {w : World} {base : Nat} {e : TypeId} {n g L cap : Nat} {xs : List Value} (h : w.ownsRow base e 1 (.slice (some ⟨g, 0, none⟩) L cap) n xs) {i : Nat} {u : Value} (hu : xs[i]? = some u) : w.cell? ⟨g, i, none⟩ = some u := by
  have := h.cells (g := g) rfl i u hu
  have hadd : (⟨g, 0, none⟩ : Addr).add i = ⟨g, i, none⟩ := by unfold Addr.add; split <;> simp_all
  rwa [hadd] at this

/-- The first loop is through. -/
theorem filled_end {B n : Nat} {cl : Bool} {w wr : World} (h : Filled B n cl w wr n) :
    ∃ (ao : Option Addr) (cap : Nat) (xs : List Value) (cur : Array Value), wr.heap[B + 1]? = some (cns 0 (.slice ao n cap) cl) ∧ wr.ownsRow (B + 2) 37 1 (.slice ao n cap) n xs ∧ Below B w wr ∧ B + 2 ≤ wr.heap.size ∧
      (0 < n → ∃ g, ao = some ⟨g, 0, none⟩) ∧ wr.heap[B]? = some (.cells cur 35 (0, 0)) ∧ xs.length = n ∧ (∀ i, i < n → ∃ p, xs[i]? = some (ifc p) ∧ cur[i]? = some (ptr p) ∧ wr.heap[p]? = some (conn 0)) := by
  obtain ⟨ps, ov, cur, hps, hbel, hO, hcs, hcur, hC, hown, hconn, hsz⟩ := h
  have hx : ∀ i, i < n → ∃ p, (ps.map ifc)[i]? = some (ifc p) ∧ cur[i]? = some (ptr p) ∧ wr.heap[p]? = some (conn 0) := by
    intro i hi
    refine ⟨ps.getD i 0, ?_, hcur i hi, (hconn i hi).2⟩
    have : i < ps.length := by omega
    rw [List.getElem?_map, List.getD_eq_getElem?_getD, List.getElem?_eq_getElem this]; rfl
  have hform : ∃ ao cap, ov = .slice ao n cap ∧ (0 < n → ∃ g, ao = some ⟨g, 0, none⟩) := by
    rcases hown.2 with ⟨rfl, h0⟩ | ⟨g, cap, _, rfl, _⟩
    · exact ⟨none, 0, by rw [h0], fun h => by omega⟩
    · exact ⟨_, cap, rfl, fun _ => ⟨g, rfl⟩⟩
  obtain ⟨ao, cap, rfl, hao⟩ := hform
  exact ⟨ao, cap, _, cur, hC, hown, hbel, hsz, hao, hO, by simpa using hps, hx⟩

/-- What the second loop reads in w2: element i of the open ones is the interface of a connection, the old ones' element i is that connection, and it was never closed. -/
def Seen (B n g : Nat) (w2 : World) : Prop :=
  ∀ i, i < n → ∃ p, w2.cell? ⟨g, i, none⟩ = some (ifc p) ∧ w2.cell? ⟨B, i, none⟩ = some (ptr p) ∧ w2.cell? ⟨p, 1, none⟩ = some (.int .i64 0)

/-- Behind add, closed. -/
theorem after_shut {B n cap : Nat} {w wr w2 : World} {ao : Option Addr} {xs : List Value} {cur : Array Value} (hown : wr.ownsRow (B + 2) 37 1 (.slice ao n cap) n xs) (hbel : Below B w wr) (hsz : B + 2 ≤ wr.heap.size)
    (hO : wr.heap[B]? = some (.cells cur 35 (0, 0))) (hx : ∀ i, i < n → ∃ p, xs[i]? = some (ifc p) ∧ cur[i]? = some (ptr p) ∧ wr.heap[p]? = some (conn 0)) (hC : wr.heap[B + 1]? = some (cns 0 (.slice ao n cap) true))
    (hC2 : w2.heap[B + 1]? = some (cns 0 (.slice ao n cap) true)) (hp2 : w2.heap[wr.heap.size]? = some (conn 1)) (hK : Kept (fun b => b = B + 1 ∨ b = wr.heap.size) (wr.alloc (conn 0)) w2) :
    w2.cell? ⟨B + 1, 3, none⟩ = some (.bool true) ∧ w2.cell? ⟨B + 1, 2, none⟩ = some (.slice ao n cap) ∧ w2.cell? ⟨wr.heap.size, 1, none⟩ = some (.int .i64 1) ∧ Below B w w2 ∧ ∀ g, ao = some ⟨g, 0, none⟩ → Seen B n g w2 := by
  have hK0 : Kept (fun b => b = B + 1 ∨ b = wr.heap.size) wr w2 := ((Kept.refl _ wr).alloc _).trans hK
  refine ⟨by rw [cell_of_row _ _ _ _ _ _ hC2]; rfl, by rw [cell_of_row _ _ _ _ _ _ hC2]; rfl, by rw [cell_of_row _ _ _ _ _ _ hp2]; rfl, hK0.below hbel (by omega) (by rintro b (h | h) <;> omega), ?_⟩
  rintro g rfl i hi
  obtain ⟨p, h1, h2, h3⟩ := hx i hi
  have hr2 : w2.ownsRow (B + 2) 37 1 (.slice (some ⟨g, 0, none⟩) n cap) n xs := hK0.row hown (by
    rintro q hq (h | h)
    · subst h; exact ne_tag hown hC (by decide) hq
    · subst h; have := (hown.lt _ hq).2; omega)
  have hO2 := hK0.obj hO (by have := lt_obj hO; omega)
  have hp3 := hK0.obj h3 (by
    rintro (h | h)
    · subst h; rw [hC] at h3; simp [cns, conn] at h3
    · have := lt_obj h3; omega)
  exact ⟨p, row_cell hr2 h1, by rw [cell_of_row _ _ _ _ _ _ hO2]; exact h2, by rw [cell_of_row _ _ _ _ _ _ hp3]; rfl⟩

/-- Behind add, open. -/
theorem after_took {B n cap g cap2 : Nat} {w wr w2 : World} {ao : Option Addr} {xs : List Value} {cur : Array Value} (hown : wr.ownsRow (B + 2) 37 1 (.slice ao n cap) n xs) (hbel : Below B w wr) (hsz : B + 2 ≤ wr.heap.size)
    (hO : wr.heap[B]? = some (.cells cur 35 (0, 0))) (hxl : xs.length = n) (hx : ∀ i, i < n → ∃ p, xs[i]? = some (ifc p) ∧ cur[i]? = some (ptr p) ∧ wr.heap[p]? = some (conn 0)) (hC : wr.heap[B + 1]? = some (cns 0 (.slice ao n cap) false))
    (hC2 : w2.heap[B + 1]? = some (cns 0 (.slice (some ⟨g, 0, none⟩) (n + 1) cap2) false)) (hown2 : w2.ownsRow (B + 2) 37 1 (.slice (some ⟨g, 0, none⟩) (n + 1) cap2) (n + 1) (xs ++ [ifc wr.heap.size]))
    (hK : Kept (fun b => b = B + 1 ∨ (Value.slice ao n cap).ownBlock = some b) (wr.alloc (conn 0)) w2) :
    w2.cell? ⟨B + 1, 3, none⟩ = some (.bool false) ∧ w2.cell? ⟨B + 1, 2, none⟩ = some (.slice (some ⟨g, 0, none⟩) (n + 1) cap2) ∧ w2.cell? ⟨wr.heap.size, 1, none⟩ = some (.int .i64 0) ∧ w2.cell? ⟨g, n, none⟩ = some (ifc wr.heap.size) ∧ Below B w w2 ∧ Seen B n g w2 := by
  have hK0 : Kept (fun b => b = B + 1 ∨ (Value.slice ao n cap).ownBlock = some b) wr w2 := ((Kept.refl _ wr).alloc _).trans hK
  have hp2 : w2.heap[wr.heap.size]? = some (conn 0) := hK.obj (heap_alloc_new wr (conn 0)) (by
    rintro (h | h)
    · omega
    · have := (hown.lt _ h).2; omega)
  refine ⟨by rw [cell_of_row _ _ _ _ _ _ hC2]; rfl, by rw [cell_of_row _ _ _ _ _ _ hC2]; rfl, by rw [cell_of_row _ _ _ _ _ _ hp2]; rfl, row_cell hown2 (by rw [← hxl]; simp), hK0.below hbel (by omega) (by
    rintro b (h | h)
    · omega
    · have := (hown.lt _ h).1; omega), ?_⟩
  intro i hi
  obtain ⟨p, h1, h2, h3⟩ := hx i hi
  have hO2 := hK0.obj hO (by
    rintro (h | h)
    · omega
    · exact ne_tag hown hO (by decide) h)
  have hp3 := hK0.obj h3 (by
    rintro (h | h)
    · subst h; rw [hC] at h3; simp [cns, conn] at h3
    · exact ne_tag hown h3 (by decide) h)
  exact ⟨p, row_cell hown2 (by rw [List.getElem?_append_left (by omega)]; exact h1), by rw [cell_of_row _ _ _ _ _ _ hO2]; exact h2, by rw [cell_of_row _ _ _ _ _ _ hp3]; rfl⟩

end Go.Proofs.Ybulkdbxq
