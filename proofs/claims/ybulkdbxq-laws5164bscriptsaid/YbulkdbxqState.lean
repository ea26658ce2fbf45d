/-
  What lies in memory, block by block: a stand-in connection, a conns, what a step leaves alone. And add's contracts in these words.
-/
import Derived.Test.YbulkdbxqConns
namespace Go.Proofs.Ybulkdbxq
open Go.RowKit Go.MuLone

def conn (k : Int) : Obj := .cells #[.nilIface, .int .i64 k] 39 (0, 0)
def ifc (p : Nat) : Value := .iface 35 (.pointer (some ⟨p, 0, none⟩))
def ptr (p : Nat) : Value := .pointer (some ⟨p, 0, none⟩)
def cns (s : Int) (ov : Value) (cl : Bool) : Obj := .cells #[.int .i32 s, .int .u32 0, ov, .bool cl] 34 (0, 0)

/-- From w to w' no block outside S has turned. -/
structure Kept (S : Nat → Prop) (w w' : World) : Prop where
  os : w'.os = w.os
  tape : w'.tape = w.tape
  output : w'.output = w.output
  size : w.heap.size ≤ w'.heap.size
  block : ∀ k, k < w.heap.size → ¬ S k → w'.heap[k]? = w.heap[k]?

theorem Kept.refl (S : Nat → Prop) (w : World) : Kept S w w := ⟨rfl, rfl, rfl, Nat.le_refl _, fun _ _ _ => rfl⟩
theorem Kept.trans {S : Nat → Prop} {a b c : World} (h : Kept S a b) (k : Kept S b c) : Kept S a c :=
  ⟨k.os.trans h.os, k.tape.trans h.tape, k.output.trans h.output, Nat.le_trans h.size k.size, fun i hi hs => (k.block i (Nat.lt_of_lt_of_le hi h.size) hs).trans (h.block i hi hs)⟩
theorem Kept.mono {S T : Nat → Prop} {a b : World} (h : Kept S a b) (hST : ∀ k, S k → T k) : Kept T a b :=
  ⟨h.os, h.tape, h.output, h.size, fun i hi ht => h.block i hi (fun hs => ht (hST i hs))⟩
theorem Kept.drew {S : Nat → Prop} {a b : World} (h : Kept S a b) : Kept S a b.drew := ⟨h.os, h.tape, h.output, h.size, h.block⟩
theorem Kept.alloc {S : Nat → Prop} {a b : World} (h : Kept S a b) (o : Obj) : Kept S a (b.alloc o) :=
  h.trans ⟨rfl, rfl, rfl, by simp, fun k hk _ => Below.heap_alloc _ _ _ hk⟩
theorem Kept.setCell {S : Nat → Prop} {a b : World} (h : Kept S a b) (p : Addr) (hp : S p.block) (v : Value) : Kept S a (b.setCell p v) :=
  h.trans ⟨rfl, rfl, rfl, by simp [World.setCell], fun k _ hk => Below.heap_setCell _ _ _ _ (fun e => hk (by rw [e]; exact hp))⟩
theorem Kept.grown {S : Nat → Prop} {a b c : World} {row : Option Nat} (h : Kept S a b) (hg : b.grownBy c row) (hr : ∀ k, row = some k → S k) : Kept S a c :=
  h.trans ⟨hg.os, hg.tape, hg.output, hg.size, fun k hk hs => hg.block k hk (fun e => hs (hr k e.symm))⟩
theorem Kept.below {S : Nat → Prop} {B : Nat} {w a b : World} (h : Kept S a b) (hb : Below B w a) (hB : B ≤ a.heap.size) (hS : ∀ k, S k → B ≤ k) : Below B w b :=
  hb.trans ⟨h.os, h.tape, h.output, h.size, fun k hk => h.block k (by omega) (fun hs => by have := hS k hs; omega)⟩
theorem Kept.obj {S : Nat → Prop} {a b : World} (h : Kept S a b) {k : Nat} {o : Obj} (ho : a.heap[k]? = some o) (hs : ¬ S k) : b.heap[k]? = some o :=
  (h.block k (Array.getElem?_eq_some_iff.1 ho).1 hs).trans ho
theorem Kept.row {S : Nat → Prop} {a b : World} (h : Kept S a b) {base : Nat} {e : TypeId} {size n : Nat} {v : Value} {xs : List Value} (ho : a.ownsRow base e size v n xs) (hs : ∀ g, v.ownBlock = some g → ¬ S g) : b.ownsRow base e size v n xs := by
  refine ⟨ho.1, ?_⟩
  rcases ho.2 with hn | ⟨g, cap, cur, rfl, hb, hgg, rest⟩
  · exact .inl hn
  · exact .inr ⟨g, cap, cur, rfl, hb, h.obj hgg (hs g rfl), rest⟩

/-- A row of type e and a block of another type are not one. -/
theorem ne_tag {w : World} {base : Nat} {e t : TypeId} {size n : Nat} {v : Value} {xs : List Value} (h : w.ownsRow base e size v n xs) {b : Nat} {cs : Array Value} (hb : w.heap[b]? = some (.cells cs t (0, 0))) (ht : t ≠ e) : v.ownBlock ≠ some b := by
  intro hv
  rcases h.2 with ⟨rfl, _⟩ | ⟨g, cap, cur, rfl, _, hg, _⟩
  · simp [Value.ownBlock] at hv
  · simp [Value.ownBlock] at hv
    subst hv
    rw [hg] at hb
    simp at hb
    exact ht hb.2.symm
theorem ne_block {w : World} {a b : Nat} {ca cb : Array Value} {ta tb : TypeId} (ha : w.heap[a]? = some (.cells ca ta (0, 0))) (hb : w.heap[b]? = some (.cells cb tb (0, 0))) (h : ta ≠ tb) : a ≠ b := by
  intro e
  subst e
  rw [ha] at hb
  simp at hb
  exact h hb.2
theorem lt_obj {w : World} {a : Nat} {o : Obj} (ha : w.heap[a]? = some o) : a < w.heap.size := (Array.getElem?_eq_some_iff.1 ha).1

/-! ### add, once it is closed -/
theorem add_shut (c p : Nat) (ov : Value) (k : Int) (h0 : 0 ≤ k) (h1 : k ≤ 1000000) (w : World) (hc : w.heap[c]? = some (cns 0 ov true)) (hp : w.heap[p]? = some (conn k)) :
    Calls Yba.prog 5 #[.pointer (some ⟨c, 0, none⟩), .iface 35 (.pointer (some ⟨p, 0, none⟩))] w fun e w' => e = .returned (.bool false) ∧
      w'.heap[c]? = some (cns 0 ov true) ∧ w'.heap[p]? = some (conn (k + 1)) ∧ Kept (fun b => b = c ∨ b = p) w w' := by
  have hne : c ≠ p := ne_block hc hp (by decide)
  refine (add_closed c p k h0 h1 w (by rw [cell_of_row _ _ _ _ _ _ hc]; rfl) (by rw [cell_of_row _ _ _ _ _ _ hc]; rfl) (frozen_of_row _ _ _ _ _ hc) (by rw [cell_of_row _ _ _ _ _ _ hp]; rfl) (frozen_of_row _ _ _ _ _ hp)).mono ?_
  rintro e w' ⟨rfl, rfl⟩
  refine ⟨rfl, ?_, ?_, (((Kept.refl _ w).setCell _ (Or.inl rfl) _).setCell _ (Or.inr rfl) _).setCell _ (Or.inl rfl) _⟩
  · have g1 := heap_setCell_same w c 0 _ _ (.int .i32 1) hc
    have g2 := (heap_setCell_other _ ⟨p, 1, none⟩ c (.int .i64 (k + 1)) hne).trans g1
    exact heap_setCell_same _ c 0 _ _ (.int .i32 0) g2
  · have g1 := (heap_setCell_other w ⟨c, 0, none⟩ p (.int .i32 1) (Ne.symm hne)).trans hp
    have g2 := heap_setCell_same _ p 1 _ _ (.int .i64 (k + 1)) g1
    exact (heap_setCell_other _ ⟨c, 0, none⟩ p (.int .i32 0) (Ne.symm hne)).trans g2

/-! ### add, while it is open -/
theorem add_took (c p base : Nat) (ov : Value) (n : Nat) (xs : List Value) (w : World) (hc : w.heap[c]? = some (cns 0 ov false)) (hown : w.ownsRow base 37 1 ov n xs) (hbase : base ≤ w.heap.size) (hn : n ≤ 1024) :
    Calls Yba.prog 5 #[.pointer (some ⟨c, 0, none⟩), .iface 35 (.pointer (some ⟨p, 0, none⟩))] w fun e w' => e = .returned (.bool true) ∧
      ∃ g cap, w'.heap[c]? = some (cns 0 (.slice (some ⟨g, 0, none⟩) (n + 1) cap) false) ∧ w'.ownsRow base 37 1 (.slice (some ⟨g, 0, none⟩) (n + 1) cap) (n + 1) (xs ++ [ifc p]) ∧ Kept (fun b => b = c ∨ ov.ownBlock = some b) w w' := by
  have hoc : ov.ownBlock ≠ some c := ne_tag hown hc (by decide)
  have hlt := lt_obj hc
  refine (add_open c p base ov n xs w (by rw [cell_of_row _ _ _ _ _ _ hc]; rfl) (by rw [cell_of_row _ _ _ _ _ _ hc]; rfl) (by rw [cell_of_row _ _ _ _ _ _ hc]; rfl) (frozen_of_row _ _ _ _ _ hc) (frozen_of_row _ _ _ _ _ hc) hown hoc hbase hn).mono ?_
  rintro e w' ⟨rfl, g, cap, w1, rfl, hown1, hgrow, hat, hglt⟩
  have g1 := heap_setCell_same w c 0 _ _ (.int .i32 1) hc
  have g2 := (Below.heap_alloc (w.setCell ⟨c, 0, none⟩ (.int .i32 1)) (.cells #[.iface 35 (.pointer (some ⟨p, 0, none⟩))] 37) c (by simp [World.setCell]; exact hlt)).trans g1
  have g3 := (hgrow.block c (by simp [World.setCell]; omega) (Ne.symm hoc)).trans g2
  have g4 := heap_setCell_same _ c 2 _ _ (.slice (some ⟨g, 0, none⟩) (n + 1) cap) g3
  have hgc : g ≠ c := by
    rcases hat with h | h
    · intro e; subst e; exact hoc h
    · omega
  refine ⟨rfl, g, cap, ?_, ?_, ?_⟩
  · exact heap_setCell_same _ c 0 _ _ (.int .i32 0) g4
  · exact (hown1.kept (grownBy_setCell w1 ⟨c, 2, none⟩ _) (Or.inr (by simpa [Value.ownBlock] using hgc))).kept (grownBy_setCell _ ⟨c, 0, none⟩ _) (Or.inr (by simpa [Value.ownBlock] using hgc))
  · exact (((((Kept.refl (fun b => b = c ∨ ov.ownBlock = some b) w).setCell ⟨c, 0, none⟩ (Or.inl rfl) _).alloc _).grown hgrow (fun k hk => Or.inr hk)).setCell ⟨c, 2, none⟩ (Or.inl rfl) _).setCell ⟨c, 0, none⟩ (Or.inl rfl) _

end Go.Proofs.Ybulkdbxq
