/-
  A PROOF OF Rows.LawS5161COwnSaid, in the frame of the guide (proof-skeleton), the world by Below.
-/
import Derived.Test.YbulkdbwaFollows
import Derived.WalkKit
import Derived.ProofKit
import Derived.OpenShut
import Derived.ShutString
import Derived.Below
import Derived.Maps.OwnSet
namespace Go.Proofs.Ybulkdbwa.lawS5161COwn
open Go.ChangeShapes Go.WideShapes Go.ChangeAt Go.RowKit
open Go.ChangeMaps (open_string shut_string)
set_option linter.unusedVariables false      -- a walk need not use every 'w<i>' (that an integer argument fits its kind)

theorem own : ownKnob Yba.prog.godebug = none := by kernel_rfl

/-! ### STEP 1: THE WALK: the Go text returns true. 'Grown w w'': the world has at most new blocks (Derived/RowKit3.lean). Part the cases AHEAD of 'go_enter' where a test parts the walk; take each callee by a contract of your own. -/
theorem law : Maps.Keyed Yba.prog 9 := Maps.string_keyed Yba.underlying9
theorem zero2 (w : World) : (zeroValue 2).run Yba.prog w = .ok (.int .i64 0) w := by kernel_rfl
theorem cell0 (u : World) (s : ByteArray) (m : Option Nat) :
    (u.alloc (.cells ((Yba.zeroCells130.setIfInBounds 0 (.string s)).setIfInBounds 1 (.map m)) 130)).cell? ⟨u.heap.size, 0, none⟩ = some (.string s) := by
  simp [World.cell?_alloc_new]
theorem cell1 (u : World) (s : ByteArray) (m : Option Nat) :
    (u.alloc (.cells ((Yba.zeroCells130.setIfInBounds 0 (.string s)).setIfInBounds 1 (.map m)) 130)).cell? ⟨u.heap.size, 1, none⟩ = some (.map m) := by
  simp [World.cell?_alloc_new]
theorem list_ne {a b : ByteArray} (h : (a.toList == b.toList) = false) : a.data.toList ≠ b.data.toList := by
  intro e
  have : a = b := by
    cases a; cases b; simp at e; rw [e]
  subst this
  simp at h

set_option maxRecDepth 10000 in
set_option maxHeartbeats 1000000 in
theorem walk (a0 : ByteArray) (a1 : ByteArray) (a2 : Int) (a3 : Int) (w0 : a0.size ≤ maxLen) (w1 : a1.size ≤ maxLen) (w2 : (Lit.int .i64 a2).wf = true) (w3 : (Lit.int .i64 a3).wf = true) (w : World) :
    Calls Yba.prog 6 #[.string a0, .string a1, .int .i64 a2, .int .i64 a3] w fun e w' => e = .returned (.bool true) ∧ Below w.heap.size w w' := by
  have hmm := @run_makeMap Yba.prog
  obtain ⟨u1, hrun1, hown1, hg1⟩ := (World.ownsMap_made (H := Unit) w Yba.prog 9 (plainElem Yba.prog 2)).update law Yba.underlying111 (by unfold maxLen; omega) (WideMaps.keyOf_string_mk Yba.underlying9 w0) (plainElem_int Yba.underlying2 w2)
  have hb1 : Below w.heap.size w u1 := ((Below.refl _ _).alloc (Nat.le_refl _) _).grown hg1 (by simp) (fun k hk => by cases hk; exact Nat.le_refl _)
  by_cases hE : (a1.toList == a0.toList) = true
  · clear hown1 hg1
    go_enter Yba.func6, Yba.ntmps6
    go_wp2_with fail
    refine (follows_own _ _ _ _ (cell0 _ _ _)).mono ?_
    rintro e w' ⟨rfl, rfl⟩
    go_wp2_with fail
    go_ret
    exact ⟨rfl, hb1.alloc hb1.size _⟩
  · have hF : (a1.toList == a0.toList) = false := by simpa using hE
    have hD := list_ne hF
    obtain ⟨u2, hrun2, hown2, hg2⟩ := hown1.update law Yba.underlying111 (by unfold maxLen; omega) (WideMaps.keyOf_string_mk Yba.underlying9 w1) (plainElem_int Yba.underlying2 w2)
    have hb2 : Below w.heap.size w u2 := hb1.grown hg2 hb1.size (fun k hk => by cases hk; exact Nat.le_refl _)
    have hlook := fun o => (hown2.alloc o).look_ok law Yba.underlying111 (zero2 _) (plainElem_int (H := Unit) Yba.underlying2 (a := 0) (by decide)) (WideMaps.keyOf_string_mk Yba.underlying9 w1)
    rw [Maps.atKey_put_same (Maps.isMap_empty.put _ _) (show WideAt.IsKeyLit (.string _) from trivial), Maps.has_put_same (Maps.isMap_empty.put _ _) (show WideAt.IsKeyLit (.string _) from trivial)] at hlook
    have hrunL : ∀ o, (Instr.lookup 111 (.map (some w.heap.size)) (.string a1) true).run Yba.prog (u2.alloc o) = .ok (.tuple #[.int .i64 a2, .bool true]) (u2.alloc o) := by
      intro o
      obtain ⟨v, ps, hr, hv⟩ := hlook o
      obtain ⟨c, rfl, hc, _⟩ := plainElem_int_inv Yba.underlying2 hv
      simp at hc
      rw [hr, hc.1]
    have hL : Hid (∀ o, (Instr.lookup 111 (.map (some w.heap.size)) (.string a1) true).run Yba.prog (u2.alloc o) = .ok (.tuple #[.int .i64 a2, .bool true]) (u2.alloc o)) := hrunL
    clear hown1 hg1 hown2 hg2 hlook hrunL hE hD
    go_enter Yba.func6, Yba.ntmps6
    go_wp2_with fail
    refine (follows_own _ _ _ _ (cell0 _ _ _)).mono ?_
    rintro e w' ⟨rfl, rfl⟩
    go_wp2_with fail
    refine (follows_other _ _ _ _ _ _ _ _ (cell0 _ _ _) (cell1 _ _ _) hF (hL.out _)).mono ?_
    rintro e w' ⟨rfl, rfl⟩
    go_wp2_with fail
    go_ret
    exact ⟨by simp, hb2.alloc hb2.size _⟩

/-! ### THE ROW's STEP: WRITTEN OUT: LEAVE IT -/
set_option maxRecDepth 100000 in
theorem lifted (os : Os) (started : os.Started) (H : Type) (enc : TypeId × Value → H) :
    ReturnsInHanded {} Yba.checked os 6 .any (Rows.lawS5161COwnSpec.pre6 enc Yba.prog Yba.f6 Rows.lawS5161COwnRow.domain false) (Rows.lawS5161COwnSpec.post enc Yba.prog Yba.f6 false true false false) := by
  refine returnsInHanded_of_change (C := Yba.checked) own started (by kernel_rfl) Yba.func6
    (ChangeSpec.witness6 (enc := enc) (C := Yba.checked) false ⟨#[], #[.string ByteArray.empty, .string ByteArray.empty, .int .i64 0, .int .i64 0], []⟩ 8 (by kernel_rfl) (by kernel_rfl) (by kernel_rfl) (by kernel_rfl)) ?_
  intro W base args ds gs before hval0 hW hcnd _
  have hval : ∀ (j : Nat) t v, Yba.f6.params[j]? = some t → args[j]? = some v → Value.okWide Yba.prog W .any base t v := hval0
  have hW' := hW
  obtain ⟨p, q, hA0, hV, rfl, hfz, hnd⟩ := hW
  have hA : DataW.TrodAll enc Yba.prog W 0 (fun _ => true) true Yba.f6.params.toList args.toList ds p := hA0
  rw [Yba.params6] at hA hval
  obtain ⟨v0, vs0, d0, ds0, p0, q0, hargs, rfl, rfl, h0, r0⟩ := trodAll_cons hA
  obtain ⟨v1, vs1, d1, ds1, p1, q1, rfl, rfl, rfl, h1, r1⟩ := trodAll_cons r0
  obtain ⟨v2, vs2, d2, ds2, p2, q2, rfl, rfl, rfl, h2, r2⟩ := trodAll_cons r1
  obtain ⟨v3, vs3, d3, ds3, p3, q3, rfl, rfl, rfl, h3, r3⟩ := trodAll_cons r2
  obtain ⟨rfl, rfl, rfl⟩ := trodAll_nil r3
  obtain rfl : args = #[v0, v1, v2, v3] := by cases args; simp_all
  obtain ⟨rfl, rfl⟩ := trodVars_none hV
  obtain ⟨a0, rfl, rfl, rfl, w0⟩ := open_string Yba.underlying9 (hval 0 9 v0 rfl rfl) h0
  obtain ⟨a1, rfl, rfl, rfl, w1⟩ := open_string Yba.underlying9 (hval 1 9 v1 rfl rfl) h1
  obtain ⟨a2, rfl, rfl, rfl, w2⟩ := open_int Yba.underlying2 (hval 2 2 v2 rfl rfl) h2
  obtain ⟨a3, rfl, rfl, rfl, w3⟩ := open_int Yba.underlying2 (hval 3 2 v3 rfl rfl) h3
  clear hA0 hval0
  simp only [List.append_nil] at hW'
  refine (walk a0 a1 a2 a3 w0 w1 w2 w3 W).mono fun e W' ⟨he, bel⟩ => ?_
  subst he
  exact ⟨_, rfl, _, _, _, [], [], [], hW', trodAll_mk1 (shut_bool Yba.underlying4 _), (trodAll_cons_mk (shut_string Yba.underlying9 w0) (trodAll_cons_mk (shut_string Yba.underlying9 w1) (trodAll_cons_mk (shut_int Yba.underlying2 w2) (trodAll_cons_mk (shut_int Yba.underlying2 w3) trodAll_mk0)))), rfl, bel.frame _, fun h => by cases h⟩

theorem over : Rows.lawS5161COwnRow.holds Yba.pinned (OpenSpec.ofChange Rows.lawS5161COwnSpec) :=
  OpenClaim.holds_of_wide 6 Yba.f6 rfl rfl rfl rfl rfl rfl rfl ⟨rfl, rfl, rfl, rfl, rfl⟩ rfl rfl rfl rfl rfl (by kernel_rfl) Yba.func6 (by kernel_rfl)
    (of_decide_eq_true (by kernel_rfl)) (by unfold Func.isWrapper; first | (rw [if_pos (by decide +kernel)]; kernel_rfl) | (rw [if_neg (by decide +kernel)]; exact ⟨rfl, rfl⟩))
    (fun os started H enc _ => lifted os started H enc)

/-- ████ THE STATEMENT ████ -/
theorem proved : Rows.LawS5161COwnSaid :=
  over
end Go.Proofs.Ybulkdbwa.lawS5161COwn
