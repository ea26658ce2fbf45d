/-
  termOf and zzs5163bexpect: their contracts. 'prev': the term before, wrapping at 0.
-/
import Derived.Test.YbulkdbxcRows
import Derived.WalkKit
import Derived.WalkSpells
import Derived.Below
import Derived.OpenShut
namespace Go.Proofs.Ybulkdbxc
open Go.RowKit

def prev (t : Int) : Int := IntKind.u64.wrap (t - 1)

theorem wrap_u64 (x : Int) : IntKind.u64.wrap x = x % 18446744073709551616 := by
  simp [IntKind.wrap, IntKind.bits, IntKind.signed]
theorem prev_zero : prev 0 = 18446744073709551615 := by
  unfold prev; rw [wrap_u64]; decide
theorem prev_succ (t : Int) (h0 : 0 ≤ t) (h1 : t ≤ 18446744073709551615) : IntKind.u64.wrap (prev t + 1) = t := by
  unfold prev; rw [wrap_u64, wrap_u64]; omega

theorem ret_u64 {a b : Int} (h : a = b) : Ending.returned (.int .u64 a) = .returned (.int .u64 b) := by rw [h]

set_option maxRecDepth 10000 in
set_option maxHeartbeats 400000 in
theorem termOf_vote (p : Option Addr) (t li lt : Int) (c cl : ByteArray) (w : World) :
    Calls Yba.prog 5 #[.pointer p, .agg #[.int .u64 t, .string c, .int .u64 li, .int .u64 lt, .bool false, .string cl]] w fun e w' => e = .returned (.int .u64 t) ∧ Below w.heap.size w w' := by
  go_enter Yba.func5, Yba.ntmps5
  go_wp2
  go_ret
  exact ⟨rfl, (Below.refl _ _).alloc (Nat.le_refl _) _⟩

set_option maxRecDepth 10000 in
set_option maxHeartbeats 400000 in
theorem termOf_pre (p : Option Addr) (t li lt : Int) (c cl : ByteArray) (w : World) :
    Calls Yba.prog 5 #[.pointer p, .agg #[.int .u64 t, .string c, .int .u64 li, .int .u64 lt, .bool true, .string cl]] w fun e w' => e = .returned (.int .u64 (prev t)) ∧ Below w.heap.size w w' := by
  go_enter Yba.func5, Yba.ntmps5
  go_wp2
  go_ret
  exact ⟨rfl, (Below.refl _ _).alloc (Nat.le_refl _) _⟩

set_option maxRecDepth 10000 in
set_option maxHeartbeats 400000 in
theorem expect_vote (t : Int) (w : World) :
    Calls Yba.prog 6 #[.int .u64 t, .bool false] w fun e w' => e = .returned (.int .u64 t) ∧ w' = w := by
  go_enter Yba.func6, Yba.ntmps6
  go_wp2
  go_ret
  exact ⟨rfl, rfl⟩

set_option maxRecDepth 10000 in
set_option maxHeartbeats 400000 in
theorem expect_pre_pos (t : Int) (h : (t == 0) = false) (w : World) :
    Calls Yba.prog 6 #[.int .u64 t, .bool true] w fun e w' => e = .returned (.int .u64 (prev t)) ∧ w' = w := by
  go_enter Yba.func6, Yba.ntmps6
  go_wp2
  go_ret
  exact ⟨rfl, rfl⟩

set_option maxRecDepth 10000 in
set_option maxHeartbeats 400000 in
theorem expect_pre_zero (w : World) :
    Calls Yba.prog 6 #[.int .u64 0, .bool true] w fun e w' => e = .returned (.int .u64 (prev 0)) ∧ w' = w := by
  rw [prev_zero]
  go_enter Yba.func6, Yba.ntmps6
  go_wp2
  go_ret
  exact ⟨rfl, rfl⟩

theorem expect_pre (t : Int) (w : World) :
    Calls Yba.prog 6 #[.int .u64 t, .bool true] w fun e w' => e = .returned (.int .u64 (prev t)) ∧ w' = w := by
  cases h : (t == 0)
  · exact expect_pre_pos t h w
  · obtain rfl : t = 0 := by simpa using h
    exact expect_pre_zero w


/-- A struct literal without a field: its zero value, under a name. -/
theorem wpList_build_zero {P : Program} {ops : Array Oper} {rest : List Oper} {o : Oper} {a : Act} {w : World} {Q : Exit → Act → World → Prop} (hg : o.guard = none) (t : TypeId) (ho : o.op = .build t #[]) (Z : Array Value)
    (hZ : P.built t [] = some Z) (h : wpList P ops Q rest (a.put o.dst (.agg Z)) w) : wpList P ops Q (o :: rest) a w := by
  refine wpList_build hg t #[] ho ?_ ?_
  · simp [hZ]
  · simpa [hZ] using h

theorem node_zero : ∃ Z : Array Value, Yba.prog.built 60 [] = some Z ∧ Z[23]? = some (.int .u64 0) ∧ Z[25]? = some (.int .i64 0) := by
  have h : (Yba.prog.built 60 []).isSome = true := by kernel_rfl
  obtain ⟨Z, hZ⟩ := Option.isSome_iff_exists.1 h
  have h23 : (Yba.prog.built 60 []).bind (fun Z => Z[23]?) = some (.int .u64 0) := by kernel_rfl
  have h25 : (Yba.prog.built 60 []).bind (fun Z => Z[25]?) = some (.int .i64 0) := by kernel_rfl
  rw [hZ] at h23 h25
  exact ⟨Z, hZ, h23, h25⟩

set_option maxRecDepth 10000 in
set_option maxHeartbeats 800000 in
theorem exact_vote (t li lt : Int) (c cl : ByteArray) (w : World) :
    Calls Yba.prog 3 #[.int .u64 t, .string c, .int .u64 li, .int .u64 lt, .bool false, .string cl] w fun e w' => e = .returned (.bool true) ∧ Below w.heap.size w w' := by
  obtain ⟨Z, hZ, _, _⟩ := node_zero
  have HZ : Hid (Yba.prog.built 60 [] = some Z) := hZ
  clear hZ
  go_enter Yba.func3, Yba.ntmps3
  go_wp2_with (refine wpList_build_zero rfl 60 rfl Z HZ.out ?_)
  refine (termOf_vote _ _ _ _ _ _ _).mono ?_
  rintro e w1 ⟨rfl, hb⟩
  go_wp2_with fail
  refine (expect_vote _ _).mono ?_
  rintro e w2 ⟨rfl, rfl⟩
  go_wp2_with fail
  go_ret
  exact ⟨by simp, ((Below.refl _ _).alloc (Nat.le_refl _) _).trans (hb.mono (by simp))⟩

set_option maxRecDepth 10000 in
set_option maxHeartbeats 800000 in
theorem exact_pre (t li lt : Int) (c cl : ByteArray) (w : World) :
    Calls Yba.prog 3 #[.int .u64 t, .string c, .int .u64 li, .int .u64 lt, .bool true, .string cl] w fun e w' => e = .returned (.bool true) ∧ Below w.heap.size w w' := by
  obtain ⟨Z, hZ, _, _⟩ := node_zero
  have HZ : Hid (Yba.prog.built 60 [] = some Z) := hZ
  clear hZ
  go_enter Yba.func3, Yba.ntmps3
  go_wp2_with (refine wpList_build_zero rfl 60 rfl Z HZ.out ?_)
  refine (termOf_pre _ _ _ _ _ _ _).mono ?_
  rintro e w1 ⟨rfl, hb⟩
  go_wp2_with fail
  refine (expect_pre _ _).mono ?_
  rintro e w2 ⟨rfl, rfl⟩
  go_wp2_with fail
  go_ret
  exact ⟨by simp, ((Below.refl _ _).alloc (Nat.le_refl _) _).trans (hb.mono (by simp))⟩

theorem pre_one (t : Int) (w0 : (Lit.int .u64 t).wf = true) : (IntKind.u64.wrap (prev t + 1) == t) = true := by
  have hb := bounds_u64 w0
  rw [prev_succ t hb.1 hb.2]; simp

set_option maxRecDepth 10000 in
set_option maxHeartbeats 800000 in
theorem before_any (t li lt q : Int) (c o cl : ByteArray) (w : World) (hq : (IntKind.u64.wrap (q + 1) == t) = true) (HQ : Hid (prev t = q)) :
    Calls Yba.prog 4 #[.int .u64 t, .string c, .string o, .int .u64 li, .int .u64 lt, .string cl] w fun e w' => e = .returned (.bool true) ∧ Below w.heap.size w w' := by
  obtain ⟨Z, hZ, z23, z25⟩ := node_zero
  have HZ : Hid (Yba.prog.built 60 [] = some Z) := hZ
  clear hZ
  go_enter Yba.func4, Yba.ntmps4
  go_wp2_with (refine wpList_build_zero rfl 60 rfl Z HZ.out ?_)
  generalize hW : w.alloc _ = W1
  have hs1 : w.heap.size < W1.heap.size := by subst hW; simp
  have c23 : W1.cell? ⟨w.heap.size, 23, none⟩ = some (.int .u64 0) := by subst hW; rw [World.cell?_alloc_new]; assumption
  have c25 : W1.cell? ⟨w.heap.size, 25, none⟩ = some (.int .i64 0) := by subst hW; rw [World.cell?_alloc_new]; assumption
  have hb0 : Below w.heap.size w W1 := by subst hW; exact (Below.refl _ _).alloc (Nat.le_refl _) _
  clear hW
  refine (termOf_vote _ _ _ _ _ _ _).mono ?_
  rintro e w1 ⟨rfl, hb1⟩
  go_wp2_with fail
  refine (termOf_pre _ _ _ _ _ _ _).mono ?_
  rw [HQ.out]
  rintro e w2 ⟨rfl, hb2⟩
  go_wp2_with fail
  refine (termOf_pre _ _ _ _ _ _ _).mono ?_
  rw [HQ.out]
  rintro e w3 ⟨rfl, hb3⟩
  have hb := (hb1.trans (hb2.mono hb1.size)).trans (hb3.mono (Nat.le_trans hb1.size hb2.size))
  have d23 := (hb.cell (p := ⟨w.heap.size, 23, none⟩) hs1).trans c23
  have d25 := (hb.cell (p := ⟨w.heap.size, 25, none⟩) hs1).trans c25
  have hbe := hb0.trans (hb.mono hb0.size)
  clear hb hb0 hb1 hb2 hb3 c23 c25
  go_wp2_with fail
  go_ret
  exact ⟨by simp, hbe⟩

end Go.Proofs.Ybulkdbxc
