/-
  closeAll (function 6): every open connection is closed once more.
-/
import Derived.Test.YbulkdbxqState
namespace Go.Proofs.Ybulkdbxq
open Go.RowKit Go.MuLone

/-- One count more at j. -/
def upd (es : Nat → Int) (j : Nat) : Nat → Int := fun i => if i = j then es i + 1 else es i
/-- One count more at each of js. -/
def bump (es : Nat → Int) : List Nat → Nat → Int
  | [] => es
  | j :: r => bump (upd es j) r

theorem bump_snoc (js : List Nat) (j : Nat) : ∀ es, bump es (js ++ [j]) = upd (bump es js) j := by
  induction js with
  | nil => intro es; rfl
  | cons a r ih => intro es; exact ih (upd es a)
theorem upd_le (es : Nat → Int) (j i : Nat) : es i ≤ upd es j i ∧ upd es j i ≤ es i + 1 := by
  unfold upd; split <;> omega
theorem bump_le (js : List Nat) : ∀ (es : Nat → Int) (i : Nat), es i ≤ bump es js i ∧ bump es js i ≤ es i + js.length := by
  induction js with
  | nil => intro es i; simp [bump]
  | cons a r ih =>
    intro es i
    have h1 := ih (upd es a) i
    have h2 := upd_le es a i
    simp only [bump, List.length_cons]
    omega
theorem take_snoc_getD (js : List Nat) (k : Nat) (h : k < js.length) : js.take (k + 1) = js.take k ++ [js.getD k 0] := by
  rw [List.take_succ_eq_append_getElem h, List.getD_eq_getElem?_getD, List.getElem?_eq_getElem h]; rfl
theorem getD_mem (js : List Nat) (k : Nat) (h : k < js.length) : js.getD k 0 ∈ js := by
  rw [List.getD_eq_getElem?_getD, List.getElem?_eq_getElem h]; exact List.getElem_mem h

/-- A row's cells at a plain address. -/
theorem row_at {w : World} {base : Nat} {e : TypeId} {n g L cap : Nat} {xs : List Value} (h : w.ownsRow base e 1 (.slice (some ⟨g, 0, none⟩) L cap) n xs) {i : Nat} {u : Value} (hu : xs[i]? = some u) : w.cell? ⟨g, i, none⟩ = some u := by
  have := h.cells (g := g) rfl i u hu
  have hadd : (⟨g, 0, none⟩ : Addr).add i = ⟨g, i, none⟩ := by unfold Addr.add; split <;> simp_all
  rwa [hadd] at this

set_option maxRecDepth 10000 in
set_option maxHeartbeats 400000 in
theorem close_wide (p : Nat) (k : Int) (h0 : 0 ≤ k) (h1 : k ≤ 1000000000) (w : World) (c1 : w.cell? ⟨p, 1, none⟩ = some (.int .i64 k)) (f1 : w.frozen? ⟨p, 1, none⟩ = false) :
    Calls Yba.prog 41 #[.pointer (some ⟨p, 0, none⟩)] w fun e w' => e = .returned .nilIface ∧ w' = w.setCell ⟨p, 1, none⟩ (.int .i64 (k + 1)) := by
  go_enter Yba.func41, Yba.ntmps41
  go_wp2
  go_ret
  exact ⟨rfl, rfl⟩

/-- What stands after k rounds of closeAll's loop. -/
def Closing (c m : Nat) (ps : Nat → Nat) (es : Nat → Int) (js : List Nat) (ov : Value) (w wr : World) (k : Nat) : Prop :=
  wr.heap[c]? = some (cns 1 ov true) ∧ (∀ i, i < m → wr.heap[ps i]? = some (conn (bump es (js.take k) i))) ∧ Kept (fun b => b = c ∨ ∃ i, i < m ∧ b = ps i) w wr

theorem closing_step {c m k : Nat} {ps : Nat → Nat} {es : Nat → Int} {js : List Nat} {ov : Value} {w wr : World} (h : Closing c m ps es js ov w wr k) (hk : k < js.length) (hj : js.getD k 0 < m)
    (hinj : ∀ i j, i < m → j < m → ps i = ps j → i = j) (hcp : ∀ i, i < m → ps i ≠ c) :
    Closing c m ps es js ov w (wr.setCell ⟨ps (js.getD k 0), 1, none⟩ (.int .i64 (bump es (js.take k) (js.getD k 0) + 1))) (k + 1) := by
  obtain ⟨h1, h2, h3⟩ := h
  refine ⟨(heap_setCell_other _ _ _ _ (fun e => hcp _ hj e.symm)).trans h1, ?_, h3.setCell _ (Or.inr ⟨_, hj, rfl⟩) _⟩
  intro i hi
  rw [take_snoc_getD js k hk, bump_snoc]
  unfold upd
  by_cases e : i = js.getD k 0
  · rw [if_pos e, e]
    exact heap_setCell_same _ _ 1 _ _ _ (h2 _ hj)
  · rw [if_neg e]
    exact (heap_setCell_other _ _ _ _ (fun e' => e (hinj _ _ hi hj e'))).trans (h2 i hi)

set_option maxRecDepth 10000 in
set_option maxHeartbeats 2000000 in
theorem closeAll_core (c m base g cap : Nat) (ps : Nat → Nat) (es : Nat → Int) (js : List Nat) (ao : Option Addr) (cl : Bool) (w : World)
    (hc : w.heap[c]? = some (cns 0 (.slice ao js.length cap) cl)) (hown : w.ownsRow base 37 1 (.slice ao js.length cap) js.length (js.map fun j => ifc (ps j)))
    (hg : 0 < js.length → ao = some ⟨g, 0, none⟩)
    (hjs : ∀ j ∈ js, j < m) (hconn : ∀ i, i < m → w.heap[ps i]? = some (conn (es i))) (hinj : ∀ i j, i < m → j < m → ps i = ps j → i = j) (hlen : js.length ≤ 1024) (hes : ∀ i, i < m → 0 ≤ es i ∧ es i ≤ 100000000) :
    Calls Yba.prog 6 #[.pointer (some ⟨c, 0, none⟩)] w fun e w' => e = .returned (.tuple #[]) ∧
      w'.heap[c]? = some (cns 0 (.slice ao js.length cap) true) ∧ (∀ i, i < m → w'.heap[ps i]? = some (conn (bump es js i))) ∧ Kept (fun b => b = c ∨ ∃ i, i < m ∧ b = ps i) w w' := by
  have c0 : w.cell? ⟨c, 0, none⟩ = some (.int .i32 0) := by rw [cell_of_row _ _ _ _ _ _ hc]; rfl
  have f0 : w.frozen? ⟨c, 0, none⟩ = false := frozen_of_row _ _ _ _ _ hc
  have hm := method_close
  have g1 := heap_setCell_same w c 0 _ _ (.int .i32 1) hc
  generalize hW : w.setCell ⟨c, 0, none⟩ (.int .i32 1) = W at g1
  have d2 : W.cell? ⟨c, 2, none⟩ = some (.slice ao js.length cap) := by rw [cell_of_row _ _ _ _ _ _ g1]; rfl
  have d3 : W.cell? ⟨c, 3, none⟩ = some (.bool cl) := by rw [cell_of_row _ _ _ _ _ _ g1]; rfl
  have e3 : W.frozen? ⟨c, 3, none⟩ = false := frozen_of_row _ _ _ _ _ g1
  have d2' : (W.setCell ⟨c, 3, none⟩ (.bool true)).cell? ⟨c, 2, none⟩ = some (.slice ao js.length cap) := (World.cell?_setCell_other _ ⟨c, 3, none⟩ ⟨c, 2, none⟩ _ (by simp)).trans d2
  have hcp : ∀ i, i < m → ps i ≠ c := fun i hi => ne_block (hconn i hi) hc (by decide)
  have hst : Closing c m ps es js (.slice ao js.length cap) w (W.setCell ⟨c, 3, none⟩ (.bool true)) 0 := by
    subst hW
    refine ⟨heap_setCell_same _ c 3 _ _ _ g1, ?_, ((Kept.refl (fun b => b = c ∨ ∃ i, i < m ∧ b = ps i) w).setCell ⟨c, 0, none⟩ (Or.inl rfl) _).setCell ⟨c, 3, none⟩ (Or.inl rfl) _⟩
    intro i hi
    exact (heap_setCell_other _ _ _ _ (hcp i hi)).trans ((heap_setCell_other _ _ _ _ (hcp i hi)).trans (hconn i hi))
  have HST : Hid (Closing c m ps es js (.slice ao js.length cap) w (W.setCell ⟨c, 3, none⟩ (.bool true)) 0) := hst
  have HH : Hid (w.heap[c]? = some (cns 0 (.slice ao js.length cap) cl)) := hc
  clear hst hc g1 d2
  go_enter_defers Yba.func6, Yba.ntmps6
  go_wp2_with (go_at_call 7; refine (lock_free Yba.muLib ⟨c, 0, none⟩ _ c0 f0).mono ?_; rw [hW]; rintro e w' ⟨rfl, rfl⟩)
  go_loopw [19] (fun i wr => ∃ k : Nat, k ≤ js.length ∧ i = .int .i64 k ∧ Closing c m ps es js (.slice ao js.length cap) w wr k) (fun i _ => js.length - (intOf i).toNat)
  case atStart => exact ⟨0, Nat.zero_le _, rfl, HST.out⟩
  case round =>
    obtain ⟨k, hk, rfl, hcl⟩ := hrel
    by_cases hkl : k < js.length
    · obtain rfl : ao = some ⟨g, 0, none⟩ := hg (by omega)
      have hj : js.getD k 0 < m := hjs _ (getD_mem js k hkl)
      have hnext := closing_step hcl hkl hj hinj hcp
      have hrow : wr.ownsRow base 37 1 (.slice (some ⟨g, 0, none⟩) js.length cap) js.length (js.map fun j => ifc (ps j)) := hcl.2.2.row hown (by
        rintro q hq (h | ⟨i, hi, h⟩)
        · subst h; exact ne_tag hown HH.out (by decide) hq
        · subst h; exact ne_tag hown (hconn i hi) (by decide) hq)
      have t1 : wr.cell? ⟨g, k, none⟩ = some (.iface 35 (.pointer (some ⟨ps (js.getD k 0), 0, none⟩))) := row_at hrow (by rw [List.getElem?_map, List.getD_eq_getElem?_getD, List.getElem?_eq_getElem hkl]; rfl)
      have hcn := hcl.2.1 _ hj
      have t2 : wr.cell? ⟨ps (js.getD k 0), 1, none⟩ = some (.int .i64 (bump es (js.take k) (js.getD k 0))) := by rw [cell_of_row _ _ _ _ _ _ hcn]; rfl
      have t3 : wr.frozen? ⟨ps (js.getD k 0), 1, none⟩ = false := frozen_of_row _ _ _ _ _ hcn
      have hbd := bump_le (js.take k) es (js.getD k 0)
      have hb0 := hes _ hj
      have htk : (js.take k).length ≤ k := List.length_take_le _ _
      have z0 : 0 ≤ bump es (js.take k) (js.getD k 0) := by omega
      have z1 : bump es (js.take k) (js.getD k 0) ≤ 1000000000 := by omega
      clear hrow hcn hbd hb0 htk hcl
      have HN : Hid (Closing c m ps es js (.slice (some ⟨g, 0, none⟩) js.length cap) w (wr.setCell ⟨ps (js.getD k 0), 1, none⟩ (.int .i64 (bump es (js.take k) (js.getD k 0) + 1))) (k + 1)) := hnext
      clear hnext
      generalize bump es (js.take k) (js.getD k 0) = z at t2 z0 z1 HN
      generalize ps (js.getD k 0) = p at t1 t2 t3 HN
      have kk : (k : Int) < (js.length : Int) := by omega
      go_wp2_with fail
      refine (close_wide p z z0 z1 _ t2 t3).mono ?_
      rintro e w2 ⟨rfl, rfl⟩
      clear t1 t2 t3
      go_wp2_with fail
      go_roundw
      case rel => exact ⟨k + 1, by omega, by go_num, HN.out⟩
      case measure => simp [intOf]; omega
    · obtain rfl : k = js.length := by omega
      obtain ⟨x1, x2, x3⟩ := hcl
      have y0 : wr.cell? ⟨c, 0, none⟩ = some (.int .i32 1) := by rw [cell_of_row _ _ _ _ _ _ x1]; rfl
      have yf : wr.frozen? ⟨c, 0, none⟩ = false := frozen_of_row _ _ _ _ _ x1
      have X1 : Hid (wr.heap[c]? = some (cns 1 (.slice ao js.length cap) true)) := x1
      have X2 : Hid (∀ i, i < m → wr.heap[ps i]? = some (conn (bump es (js.take js.length) i))) := x2
      clear x1 x2 hown
      go_wp2_with fail
      refine leaves_cons (f := 8) (args := #[.pointer (some ⟨c, 0, none⟩)]) (by simp) (by simp [go_sem]) ?_
      refine (unlock_deferred Yba.muLib ⟨c, 0, none⟩ .returning _ y0 yf).mono ?_
      rintro e u' w'' ⟨rfl, rfl, rfl⟩
      refine ⟨_, results_none rfl _ _ _, rfl, heap_setCell_same _ c 0 _ _ (.int .i32 0) X1.out, ?_, x3.setCell ⟨c, 0, none⟩ (Or.inl rfl) _⟩
      intro i hi
      have := X2.out i hi
      rw [List.take_length] at this
      exact (heap_setCell_other _ _ _ _ (hcp i hi)).trans this

theorem closeAll_any (c m base : Nat) (ps : Nat → Nat) (es : Nat → Int) (js : List Nat) (ov : Value) (cl : Bool) (w : World)
    (hc : w.heap[c]? = some (cns 0 ov cl)) (hown : w.ownsRow base 37 1 ov js.length (js.map fun j => ifc (ps j)))
    (hjs : ∀ j ∈ js, j < m) (hconn : ∀ i, i < m → w.heap[ps i]? = some (conn (es i))) (hinj : ∀ i j, i < m → j < m → ps i = ps j → i = j) (hlen : js.length ≤ 1024) (hes : ∀ i, i < m → 0 ≤ es i ∧ es i ≤ 100000000) :
    Calls Yba.prog 6 #[.pointer (some ⟨c, 0, none⟩)] w fun e w' => e = .returned (.tuple #[]) ∧
      w'.heap[c]? = some (cns 0 ov true) ∧ (∀ i, i < m → w'.heap[ps i]? = some (conn (bump es js i))) ∧ Kept (fun b => b = c ∨ ∃ i, i < m ∧ b = ps i) w w' := by
  have hform : ∃ ao cap g, ov = .slice ao js.length cap ∧ (0 < js.length → ao = some ⟨g, 0, none⟩) := by
    rcases hown.2 with ⟨rfl, h0⟩ | ⟨g, cap, _, rfl, _⟩
    · exact ⟨none, 0, 0, by rw [h0], fun h => by omega⟩
    · exact ⟨_, cap, g, rfl, fun _ => rfl⟩
  obtain ⟨ao, cap, g, rfl, hg⟩ := hform
  exact closeAll_core c m base g cap ps es js ao cl w hc hown hg hjs hconn hinj hlen hes

end Go.Proofs.Ybulkdbxq
