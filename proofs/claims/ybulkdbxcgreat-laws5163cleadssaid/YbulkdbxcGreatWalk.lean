/-
  THE LAW's WALK (function 3): without a stored term, and with one.
-/
import Derived.Test.YbulkdbxcGreatLeads
import Derived.LaidEqlPtr
namespace Go.Proofs.YbulkdbxcGreat
open Go.RowKit

/-- A struct literal without a field: its zero value, under a name. -/
theorem wpList_build_zero {P : Program} {ops : Array Oper} {rest : List Oper} {o : Oper} {a : Act} {w : World} {Q : Exit → Act → World → Prop} (hg : o.guard = none) (t : TypeId) (ho : o.op = .build t #[]) (Z : Array Value)
    (hZ : P.built t [] = some Z) (h : wpList P ops Q rest (a.put o.dst (.agg Z)) w) : wpList P ops Q (o :: rest) a w := by
  refine wpList_build hg t #[] ho ?_ ?_
  · simp [hZ]
  · simpa [hZ] using h

theorem cluster_zero : ∃ Z : Array Value, Ybaz.prog.built 50 [] = some Z ∧ Z[27]? = some (.pointer none) := by
  have h : (Ybaz.prog.built 50 []).isSome = true := by kernel_rfl
  obtain ⟨Z, hZ⟩ := Option.isSome_iff_exists.1 h
  have h27 : (Ybaz.prog.built 50 []).bind (fun Z => Z[27]?) = some (.pointer none) := by kernel_rfl
  rw [hZ] at h27
  exact ⟨Z, hZ, h27⟩

theorem neq_same (a : Addr) (w : World) : (binOp .neq 42 (.pointer (some a)) (.pointer (some a))).run Ybaz.prog w = .ok (.bool false) w := by
  obtain ⟨j, hj, _⟩ := info59
  exact Lib.run_neq_ptr_same w a Ybaz.underlying42 hj
theorem eql_same (a : Addr) (w : World) : (binOp .eql 42 (.pointer (some a)) (.pointer (some a))).run Ybaz.prog w = .ok (.bool true) w := by
  obtain ⟨j, hj, _⟩ := info59
  exact run_eql_ptr_same w a Ybaz.underlying42 hj

set_option maxRecDepth 10000 in
set_option maxHeartbeats 800000 in
theorem leads_none (n st : Int) (same lg : Bool) (ld : ByteArray) (w : World) :
    Calls Ybaz.prog 3 #[.bool false, .int .u64 n, .bool same, .int .u64 st, .bool lg, .string ld] w fun e w' => e = .returned (.bool true) ∧ Below w.heap.size w w' := by
  obtain ⟨Z, hZ, z27⟩ := cluster_zero
  have HZ : Hid (Ybaz.prog.built 50 [] = some Z) := hZ
  clear hZ
  have c27 : (w.alloc (.cells Z 50)).cell? ⟨w.heap.size, 27, none⟩ = some (.pointer none) := by rw [World.cell?_alloc_new]; exact z27
  cases same
  all_goals
    go_enter Ybaz.func3, Ybaz.ntmps3
    go_wp2_with (refine wpList_build_zero rfl 50 rfl Z HZ.out ?_)
    refine (leading_nil _ _ _ _ _ c27).mono ?_
    rintro e w1 ⟨rfl, hb1⟩
    have d27 := (hb1.cell (p := ⟨w.heap.size, 27, none⟩) (by simp)).trans c27
    have hb2 : Below w.heap.size w w1 := ((Below.refl w.heap.size w).alloc (Nat.le_refl _) _).trans (hb1.mono (by simp))
    clear hb1
    go_wp2_with fail
    refine (load_any _ _ _ d27 (conv_nil _)).mono ?_
    rintro e w2 ⟨rfl, rfl⟩
    go_wp2_with fail
    go_ret
    exact ⟨rfl, hb2⟩

/-- Behind the store of the term's pointer into the cluster. -/
theorem before_store (w : World) (Z T : Array Value) (z27 : Z[27]? = some (.pointer none)) :
    ((w.alloc (.cells Z 50)).alloc (.cells T 59)).cell? ⟨w.heap.size, 27, none⟩ = some (.pointer none) ∧
    ((w.alloc (.cells Z 50)).alloc (.cells T 59)).frozen? ⟨w.heap.size, 27, none⟩ = false ∧
    ((w.alloc (.cells Z 50)).alloc (.cells T 59)).heap[w.heap.size + 1]? = some (.cells T 59 (0, 0)) := by
  refine ⟨?_, frozen_of_row _ _ _ _ _ (heap_alloc2_old _ _ _), heap_alloc2_new _ _ _⟩
  rw [cell_of_row _ _ _ _ _ _ (heap_alloc2_old _ _ _)]
  exact z27

theorem after_store (w W1 : World) (Z T : Array Value) (n : Int) (z27 : Z[27]? = some (.pointer none)) (hT : T[0]? = some (.int .u64 n))
    (hW : W1 = ((w.alloc (.cells Z 50)).alloc (.cells T 59)).setCell ⟨w.heap.size, 27, none⟩ (.pointer (some ⟨w.heap.size + 1, 0, none⟩))) :
    W1.cell? ⟨w.heap.size, 27, none⟩ = some (.pointer (some ⟨w.heap.size + 1, 0, none⟩)) ∧ W1.heap[w.heap.size + 1]? = some (.cells T 59 (0, 0)) ∧
    W1.cell? ⟨w.heap.size + 1, 0, none⟩ = some (.int .u64 n) ∧ Below w.heap.size w W1 ∧ w.heap.size + 1 < W1.heap.size := by
  subst hW
  obtain ⟨h1, _, h3⟩ := before_store w Z T z27
  have hb : (((w.alloc (.cells Z 50)).alloc (.cells T 59)).setCell ⟨w.heap.size, 27, none⟩ (.pointer (some ⟨w.heap.size + 1, 0, none⟩))).heap[w.heap.size + 1]? = some (.cells T 59 (0, 0)) := by
    rw [Below.heap_setCell _ _ _ _ (by simp)]; exact h3
  refine ⟨World.cell?_setCell_same _ _ _ h1, hb, ?_, ?_, ?_⟩
  · rw [cell_of_row _ _ _ _ _ _ hb]; exact hT
  · exact (((Below.refl _ _).alloc (Nat.le_refl _) _).alloc (by simp) _).setCell (Nat.le_refl _) _
  · simp [World.setCell]

set_option maxRecDepth 10000 in
set_option maxHeartbeats 800000 in
theorem leads_some (n st q : Int) (same lg g : Bool) (ld : ByteArray) (w : World) (hq : (same = true ∧ n = q) ∨ (same = false ∧ st = q)) (hg : (q == n) = g) :
    Calls Ybaz.prog 3 #[.bool true, .int .u64 n, .bool same, .int .u64 st, .bool lg, .string ld] w fun e w' => e = .returned (.bool true) ∧ Below w.heap.size w w' := by
  obtain ⟨Z, hZ, z27⟩ := cluster_zero
  have HZ : Hid (Ybaz.prog.built 50 [] = some Z) := hZ
  have hns := neq_same
  have hes := eql_same
  clear hZ
  rcases hq with ⟨hs, hq⟩ | ⟨hs, hq⟩ <;> subst hs <;> cases lg <;> cases g
  all_goals try subst hq
  all_goals try (simp at hg; done)
  all_goals
    go_enter Ybaz.func3, Ybaz.ntmps3
    go_wp2_with (refine wpList_build_zero rfl 50 rfl Z HZ.out ?_)
  all_goals
    obtain ⟨s1, s2, s3⟩ := before_store w Z #[.int .u64 n, .pointer none, .nilIface, .nilFunc, .chan none, .nilIface] z27
    refine (store_any _ _ _ _ s1 s2 (conv_to s3 rfl)).mono ?_
    rintro e W1 ⟨rfl, hW⟩
    obtain ⟨c27, hC, cn, hb, hsz⟩ := after_store w W1 Z _ n z27 rfl hW
    clear hW s1 s2 s3 z27 HZ
    go_wp2_with fail
    refine (leading_some _ _ _ _ _ _ _ _ c27 hC rfl cn _ (by exact (by first | (rw [hg]; rfl) | rfl : Hid (_ = _)))).mono ?_
    rintro e w2 ⟨rfl, hb2⟩
    have d27 := (hb2.cell (p := ⟨w.heap.size, 27, none⟩) (by show w.heap.size < _; omega)).trans c27
    have dC := (hb2.block (w.heap.size + 1) hsz).trans hC
    have dn := (hb2.cell (p := ⟨w.heap.size + 1, 0, none⟩) hsz).trans cn
    have hb3 : Below w.heap.size w w2 := hb.trans (hb2.mono hb.size)
    clear hb hb2 hC c27 cn
    go_wp2_with fail
    refine (load_any _ _ _ d27 (conv_back dC rfl)).mono ?_
    rintro e w3 ⟨rfl, rfl⟩
    go_wp2_with fail
    go_ret
    exact ⟨rfl, hb3⟩

end Go.Proofs.YbulkdbxcGreat
