/-
  LawS5164BScript: what stands after t operations of the script, and that each kind of operation carries it on. And the law of 'append(s, x)' in the words of this family. No walk here.
-/
import Derived.Test.YbulkdbxqClose
namespace Go.Proofs.Ybulkdbxq
open Go.RowKit Go.MuLone

theorem ne_rows {w : World} {base base' : Nat} {e e' : TypeId} {n n' : Nat} {v v' : Value} {xs xs' : List Value} (h : w.ownsRow base e 1 v n xs) (h' : w.ownsRow base' e' 1 v' n' xs') (he : e' ≠ e) {g : Nat} (hg : v.ownBlock = some g) : v'.ownBlock ≠ some g := by
  rcases h.2 with ⟨rfl, _⟩ | ⟨q, cap, cur, rfl, _, hq, _⟩
  · simp [Value.ownBlock] at hg
  · simp [Value.ownBlock] at hg
    subst hg
    exact ne_tag h' hq (fun e0 => he e0.symm)

/-- 'append(s, x)' of one element: the law, with its side conditions paid. -/
theorem append_one (W : World) {ops : Array Oper} {rest : List Oper} {o : Oper} {a : Act} {Q : Exit → Act → World → Prop} (hgd : o.guard = none) (s x : Operand) (t : TypeId)
    (ho : o.op = .call { callee := .builtin .append, args := #[s, x], argTypes := #[t, t] })
    (base : Nat) (e : TypeId) (z : Value) (bytes : Nat) (ht : Yba.prog.underlying t = some (.slice e)) (hinfo : (Yba.prog.info? e).map (fun i => (i.zero, i.size, i.bytes)) = some (some z, 1, bytes)) (hzs : z.cells.size = 1)
    (v : Value) (n : Nat) (xs : List Value) (hs : a.eval s = v) (hown : W.ownsRow base e 1 v n xs) (u : Value) (hu : u.oneCell' = true) (H : Nat) (hH : W.heap.size = H) (hx : a.eval x = .slice (some ⟨H, 0, none⟩) 1 1)
    (hn : n ≤ 100000) (hby : bytes ≤ 16) (hbase : base ≤ W.heap.size)
    (h : ∀ g cap w', w'.ownsRow base e 1 (.slice (some ⟨g, 0, none⟩) (n + 1) cap) (n + 1) (xs ++ [u]) → Kept (fun b => v.ownBlock = some b) W w' → (v.ownBlock = some g ∨ W.heap.size < g) → wpList Yba.prog ops Q rest (a.put o.dst (.slice (some ⟨g, 0, none⟩) (n + 1) cap)) w') :
    wpList Yba.prog ops Q (o :: rest) a (W.alloc (.cells #[u] e)) := by
  subst hH
  obtain ⟨i0, hi0, hz0, hz1, hz2⟩ := info_parts hinfo
  have hbytes : (n + 1) * bytes ≤ 140737488355328 := Nat.le_trans (Nat.mul_le_mul (show n + 1 ≤ 100001 by omega) hby) (by decide)
  refine wpList_append_lies _ hgd s x t ho base e i0 z 1 bytes ht hi0 hz0 hz1 hz2 hzs (by decide) v n xs hs (hown.alloc _) ⟨W.heap.size, 0, none⟩ 1 1 [u] hx rfl (World.news_of_block (heap_alloc_new W _)) (by simpa using hu) (by decide) (by unfold maxLen; omega) hbytes (by simp; omega) (W.heap.size + 1) (by simp) ?_
  intro g cap w1 hown1 hgrow hat hlt
  exact h g cap w1 hown1 (((Kept.refl _ W).alloc _).grown hgrow (fun k hk => hk)) (by
    rcases hat with h | h
    · exact Or.inl h
    · exact Or.inr (by omega))

/-- A row of ints stands behind add. -/
theorem row3_took {B base n q : Nat} {W1 W2 : World} {ov v : Value} {shut : Bool} {xs ys : List Value} (a1 : W1.heap[B]? = some (cns 0 ov shut)) (a2 : W1.ownsRow (B + 1) 37 1 ov q ys) (k2 : Kept (fun b => b = B ∨ ov.ownBlock = some b) W1 W2) (hv : W1.ownsRow base 3 1 v n xs) : W2.ownsRow base 3 1 v n xs :=
  k2.row hv (by
    rintro g hg (e | e)
    · subst e; exact ne_tag hv a1 (by decide) hg
    · exact ne_rows hv a2 (by decide) hg e)
theorem row3_shut {B base n p : Nat} {k : Int} {W1 W2 : World} {ov v : Value} {shut : Bool} {xs : List Value} (a1 : W1.heap[B]? = some (cns 0 ov shut)) (a3 : W1.heap[p]? = some (conn k)) (k2 : Kept (fun b => b = B ∨ b = p) W1 W2) (hv : W1.ownsRow base 3 1 v n xs) : W2.ownsRow base 3 1 v n xs :=
  k2.row hv (by
    rintro g hg (e | e)
    · subst e; exact ne_tag hv a1 (by decide) hg
    · subst e; exact ne_tag hv a3 (by decide) hg)

/-- What stands after t operations. -/
structure St (B : Nat) (w wr : World) (t m : Nat) (ps : Nat → Nat) (es : Nat → Int) (js : List Nat) (mv ev qv ov : Value) (shut : Bool) : Prop where
  bel : Below B w wr
  size : B + 1 ≤ wr.heap.size
  c : wr.heap[B]? = some (cns 0 ov shut)
  opens : wr.ownsRow (B + 1) 37 1 ov js.length (js.map fun j => ifc (ps j))
  made : wr.ownsRow (B + 1) 35 1 mv m ((List.range m).map fun i => ptr (ps i))
  exp : wr.ownsRow (B + 1) 3 1 ev m ((List.range m).map fun i => .int .i64 (es i))
  idx : wr.ownsRow (B + 1) 3 1 qv js.length (js.map fun (j : Nat) => .int .i64 (j : Int))
  off : ∀ g, ev.ownBlock = some g → qv.ownBlock ≠ some g
  conns : ∀ i, i < m → wr.heap[ps i]? = some (conn (es i))
  up : ∀ i, i < m → B + 1 ≤ ps i
  inj : ∀ i j, i < m → j < m → ps i = ps j → i = j
  jm : ∀ j ∈ js, j < m
  mt : m ≤ t
  jt : js.length ≤ t
  eb : ∀ i, i < m → 0 ≤ es i ∧ es i ≤ 1024 * t

theorem st_start (w : World) (ps : Nat → Nat) (es : Nat → Int) :
    St w.heap.size w (w.alloc (.cells #[.int .i32 0, .int .u32 0, .slice none 0 0, .bool false] 34)) 0 0 ps es [] (.slice none 0 0) (.slice none 0 0) (.slice none 0 0) (.slice none 0 0) false :=
  ⟨(Below.refl _ _).alloc (Nat.le_refl _) _, by simp, heap_alloc_new _ _, World.ownsRow_nil _ _ _ _, World.ownsRow_nil _ _ _ _, World.ownsRow_nil _ _ _ _, World.ownsRow_nil _ _ _ _, fun g hg => by simp [Value.ownBlock] at hg,
    fun i hi => by omega, fun i hi => by omega, fun i j hi => by omega, fun j hj => by simp at hj, Nat.le_refl _, by simp, fun i hi => by omega⟩

/-- f, but v at m. -/
def put {α : Type} (f : Nat → α) (m : Nat) (v : α) : Nat → α := fun i => if i = m then v else f i
theorem put_self {α : Type} (f : Nat → α) (m : Nat) (v : α) : put f m v m = v := by simp [put]
theorem put_lt {α : Type} (f : Nat → α) (m : Nat) (v : α) {i : Nat} (h : i < m) : put f m v i = f i := by unfold put; rw [if_neg (by omega)]
theorem map_put {α β : Type} (f : Nat → α) (m : Nat) (v : α) (k : α → β) : (List.range (m + 1)).map (fun i => k (put f m v i)) = (List.range m).map (fun i => k (f i)) ++ [k v] := by
  rw [List.range_succ, List.map_append]
  congr 1
  · apply List.map_congr_left
    intro i hi
    rw [put_lt f m v (by simpa using hi)]
  · simp [put_self]
theorem map_put_js {α β : Type} (f : Nat → α) (m : Nat) (v : α) (k : α → β) (js : List Nat) (h : ∀ j ∈ js, j < m) : js.map (fun j => k (put f m v j)) = js.map (fun j => k (f j)) :=
  List.map_congr_left (fun j hj => by rw [put_lt f m v (h j hj)])

/-- The new connection is made: everything as it was. -/
theorem St.laid {B t m : Nat} {w wr : World} {ps : Nat → Nat} {es : Nat → Int} {js : List Nat} {mv ev qv ov : Value} {shut : Bool} (h : St B w wr t m ps es js mv ev qv ov shut) (o : Obj) : St B w (wr.alloc o) t m ps es js mv ev qv ov shut := by
  have k : Kept (fun _ => False) wr (wr.alloc o) := (Kept.refl _ wr).alloc o
  exact ⟨h.bel.alloc (Nat.le_trans (Nat.le_succ _) h.size) o, Nat.le_trans h.size k.size, k.obj h.c (fun e => e), h.opens.alloc o, h.made.alloc o, h.exp.alloc o, h.idx.alloc o, h.off, fun i hi => k.obj (h.conns i hi) (fun e => e), h.up, h.inj, h.jm, h.mt, h.jt, h.eb⟩


section
variable {B t m : Nat} {w wr : World} {ps : Nat → Nat} {es : Nat → Int} {js : List Nat} {mv ev qv ov : Value} {shut : Bool}

/-- Behind 'made = append(made, x)': W0 is the world with the new connection in it, W1 the world behind the append. -/
theorem St.after_made (h : St B w wr t m ps es js mv ev qv ov shut) {W1 : World} (k1 : Kept (fun b => mv.ownBlock = some b) (wr.alloc (conn 0)) W1) :
    B + 1 ≤ W1.heap.size ∧ W1.heap[B]? = some (cns 0 ov shut) ∧ W1.ownsRow (B + 1) 37 1 ov js.length (js.map fun j => ifc (ps j)) ∧ W1.heap[wr.heap.size]? = some (conn 0) ∧ W1.ownsRow (B + 1) 3 1 ev m ((List.range m).map fun i => .int .i64 (es i)) ∧
      W1.ownsRow (B + 1) 3 1 qv js.length (js.map fun (j : Nat) => .int .i64 (j : Int)) ∧ (∀ i, i < m → W1.heap[ps i]? = some (conn (es i))) ∧ wr.heap.size + 1 ≤ W1.heap.size := by
  have h0 := h.laid (conn 0)
  have hp0 : (wr.alloc (conn 0)).heap[wr.heap.size]? = some (conn 0) := heap_alloc_new _ _
  refine ⟨Nat.le_trans h0.size k1.size, k1.obj h0.c (ne_tag h0.made h0.c (by decide)), k1.row h0.opens (fun g hg => ne_rows h0.opens h0.made (by decide) hg), k1.obj hp0 (ne_tag h0.made hp0 (by decide)), k1.row h0.exp (fun g hg => ne_rows h0.exp h0.made (by decide) hg),
    k1.row h0.idx (fun g hg => ne_rows h0.idx h0.made (by decide) hg), fun i hi => k1.obj (h0.conns i hi) (ne_tag h0.made (h0.conns i hi) (by decide)), by have := k1.size; simp at this; omega⟩

/-- An operation that adds, while it is open. -/
theorem St.took (h : St B w wr t m ps es js mv ev qv ov false) {W1 W2 W3 W4 : World} {mv1 ov2 : Value} {g3 c3 g4 c4 : Nat}
    (o1 : W1.ownsRow (B + 1) 35 1 mv1 (m + 1) (((List.range m).map fun i => ptr (ps i)) ++ [ptr wr.heap.size])) (k1 : Kept (fun b => mv.ownBlock = some b) (wr.alloc (conn 0)) W1)
    (c2 : W2.heap[B]? = some (cns 0 ov2 false)) (o2 : W2.ownsRow (B + 1) 37 1 ov2 (js.length + 1) ((js.map fun j => ifc (ps j)) ++ [ifc wr.heap.size])) (k2 : Kept (fun b => b = B ∨ ov.ownBlock = some b) W1 W2)
    (o3 : W3.ownsRow (B + 1) 3 1 (.slice (some ⟨g3, 0, none⟩) (m + 1) c3) (m + 1) (((List.range m).map fun i => .int .i64 (es i)) ++ [.int .i64 0])) (k3 : Kept (fun b => ev.ownBlock = some b) W2 W3) (l3 : ev.ownBlock = some g3 ∨ W2.heap.size < g3)
    (o4 : W4.ownsRow (B + 1) 3 1 (.slice (some ⟨g4, 0, none⟩) (js.length + 1) c4) (js.length + 1) ((js.map fun (j : Nat) => .int .i64 (j : Int)) ++ [.int .i64 (m : Int)])) (k4 : Kept (fun b => qv.ownBlock = some b) W3 W4) (l4 : qv.ownBlock = some g4 ∨ W3.heap.size < g4) :
    St B w W4 (t + 1) (m + 1) (put ps m wr.heap.size) (put es m 0) (js ++ [m]) mv1 (.slice (some ⟨g3, 0, none⟩) (m + 1) c3) (.slice (some ⟨g4, 0, none⟩) (js.length + 1) c4) ov2 false := by
  obtain ⟨s1, a1, a2, a3, a4, a5, a6, a7⟩ := h.after_made k1
  have h0 := h.laid (conn 0)
  have hsB := h.size
  -- the rows at W2, W3
  have e2 : W2.ownsRow (B + 1) 3 1 ev m ((List.range m).map fun i => .int .i64 (es i)) := k2.row a4 (by
    rintro g hg (e | e)
    · subst e; exact ne_tag a4 a1 (by decide) hg
    · exact ne_rows a4 a2 (by decide) hg e)
  have q2 : W2.ownsRow (B + 1) 3 1 qv js.length (js.map fun (j : Nat) => .int .i64 (j : Int)) := k2.row a5 (by
    rintro g hg (e | e)
    · subst e; exact ne_tag a5 a1 (by decide) hg
    · exact ne_rows a5 a2 (by decide) hg e)
  have q3 : W3.ownsRow (B + 1) 3 1 qv js.length (js.map fun (j : Nat) => .int .i64 (j : Int)) := k3.row q2 (fun g hg e => h.off g e hg)
  have m2 : W2.ownsRow (B + 1) 35 1 mv1 (m + 1) (((List.range m).map fun i => ptr (ps i)) ++ [ptr wr.heap.size]) := k2.row o1 (by
    rintro g hg (e | e)
    · subst e; exact ne_tag o1 a1 (by decide) hg
    · exact ne_rows o1 a2 (by decide) hg e)
  have m3 := k3.row m2 (fun g hg => ne_rows m2 e2 (by decide) hg)
  have m4 := k4.row m3 (fun g hg => ne_rows m3 q3 (by decide) hg)
  have v3 := k3.row o2 (fun g hg => ne_rows o2 e2 (by decide) hg)
  have v4 := k4.row v3 (fun g hg => ne_rows v3 q3 (by decide) hg)
  have c3' := k3.obj c2 (ne_tag e2 c2 (by decide))
  have c4' := k4.obj c3' (ne_tag q3 c3' (by decide))
  have hg3 := o3.lt g3 rfl
  have hq3 : ∀ g, qv.ownBlock = some g → g < W2.heap.size := fun g hg => (q2.lt g hg).2
  have hne : qv.ownBlock ≠ some g3 := by
    intro e
    rcases l3 with l | l
    · exact h.off g3 l e
    · have := hq3 g3 e; omega
  have e4 := k4.row o3 (fun g hg e => by simp [Value.ownBlock] at hg; subst hg; exact hne e)
  have old : ∀ {p : Nat} {k : Int}, W1.heap[p]? = some (conn k) → W4.heap[p]? = some (conn k) := by
    intro p k hp
    have p2 := k2.obj hp (by
      rintro (e | e)
      · subst e; rw [a1] at hp; simp [cns, conn] at hp
      · exact ne_tag a2 hp (by decide) e)
    have p3 := k3.obj p2 (ne_tag e2 p2 (by decide))
    exact k4.obj p3 (ne_tag q3 p3 (by decide))
  have kk : Kept (fun b => B ≤ b) W1 W4 := ((k2.mono (by
    rintro b (e | e)
    · omega
    · have := (a2.lt b e).1; omega)).trans (k3.mono (fun b e => by have := (e2.lt b e).1; omega))).trans (k4.mono (fun b e => by have := (q3.lt b e).1; omega))
  have kk0 : Kept (fun b => B ≤ b) (wr.alloc (conn 0)) W4 := (k1.mono (fun b e => by have := (h0.made.lt b e).1; omega)).trans kk
  refine ⟨kk0.below h0.bel (by have := h0.size; omega) (fun b e => e), by have := kk.size; omega, c4', ?_, ?_, ?_, ?_, ?_, ?_, ?_, ?_, ?_, by have := h.mt; omega, by have := h.jt; simp; omega, ?_⟩
  · have e : (js ++ [m]).map (fun j => ifc (put ps m wr.heap.size j)) = (js.map fun j => ifc (ps j)) ++ [ifc wr.heap.size] := by rw [List.map_append, map_put_js _ _ _ _ _ h.jm]; simp [put_self]
    rw [e]; simpa using v4
  · rw [map_put]; exact m4
  · rw [map_put (k := fun x => Value.int .i64 x)]; exact e4
  · simpa using o4
  · intro g hg e
    simp [Value.ownBlock] at hg e
    subst hg
    rcases l4 with l | l
    · exact hne (by rw [l, e])
    · omega
  · intro i hi
    by_cases e : i = m
    · subst e; rw [put_self, put_self]; exact old a3
    · rw [put_lt _ _ _ (by omega), put_lt _ _ _ (by omega)]; exact old (a6 i (by omega))
  · intro i hi
    by_cases e : i = m
    · subst e; rw [put_self]; exact hsB
    · rw [put_lt _ _ _ (by omega)]; exact h.up i (by omega)
  · intro i j hi hj hij
    by_cases ei : i = m
    · by_cases ej : j = m
      · omega
      · subst ei; rw [put_self, put_lt _ _ _ (by omega)] at hij
        have := lt_obj (h.conns j (by omega)); omega
    · by_cases ej : j = m
      · subst ej; rw [put_self, put_lt _ _ _ (by omega)] at hij
        have := lt_obj (h.conns i (by omega)); omega
      · rw [put_lt _ _ _ (by omega), put_lt _ _ _ (by omega)] at hij
        exact h.inj i j (by omega) (by omega) hij
  · intro j hj
    rw [List.mem_append] at hj
    rcases hj with hj | hj
    · have := h.jm j hj; omega
    · simp at hj; omega
  · intro i hi
    by_cases e : i = m
    · subst e; rw [put_self]; omega
    · rw [put_lt _ _ _ (by omega)]; have := h.eb i (by omega); omega

/-- An operation that adds, once it is closed. -/
theorem St.refused (h : St B w wr t m ps es js mv ev qv ov true) {W1 W2 W3 : World} {mv1 : Value} {g3 c3 : Nat}
    (o1 : W1.ownsRow (B + 1) 35 1 mv1 (m + 1) (((List.range m).map fun i => ptr (ps i)) ++ [ptr wr.heap.size])) (k1 : Kept (fun b => mv.ownBlock = some b) (wr.alloc (conn 0)) W1)
    (c2 : W2.heap[B]? = some (cns 0 ov true)) (p2 : W2.heap[wr.heap.size]? = some (conn (0 + 1))) (k2 : Kept (fun b => b = B ∨ b = wr.heap.size) W1 W2)
    (o3 : W3.ownsRow (B + 1) 3 1 (.slice (some ⟨g3, 0, none⟩) (m + 1) c3) (m + 1) (((List.range m).map fun i => .int .i64 (es i)) ++ [.int .i64 1])) (k3 : Kept (fun b => ev.ownBlock = some b) W2 W3) (l3 : ev.ownBlock = some g3 ∨ W2.heap.size < g3) :
    St B w W3 (t + 1) (m + 1) (put ps m wr.heap.size) (put es m 1) js mv1 (.slice (some ⟨g3, 0, none⟩) (m + 1) c3) qv ov true := by
  obtain ⟨s1, a1, a2, a3, a4, a5, a6, a7⟩ := h.after_made k1
  have h0 := h.laid (conn 0)
  have hsB := h.size
  have far : ∀ {base : Nat} {e : TypeId} {n : Nat} {v : Value} {xs : List Value}, W1.ownsRow base e 1 v n xs → e ≠ 34 → e ≠ 39 → W2.ownsRow base e 1 v n xs := by
    intro base e n v xs hv n1 n2
    exact k2.row hv (by
      rintro g hg (q | q)
      · subst q; exact ne_tag hv a1 (fun x => n1 x.symm) hg
      · subst q; exact ne_tag hv a3 (fun x => n2 x.symm) hg)
  have e2 := far a4 (by decide) (by decide)
  have q2 := far a5 (by decide) (by decide)
  have v2 := far a2 (by decide) (by decide)
  have m2 := far o1 (by decide) (by decide)
  have q3 := k3.row q2 (fun g hg e => h.off g e hg)
  have m3 := k3.row m2 (fun g hg => ne_rows m2 e2 (by decide) hg)
  have v3 := k3.row v2 (fun g hg => ne_rows v2 e2 (by decide) hg)
  have c3' := k3.obj c2 (ne_tag e2 c2 (by decide))
  have hne : qv.ownBlock ≠ some g3 := by
    intro e
    rcases l3 with l | l
    · exact h.off g3 l e
    · have := (q2.lt g3 e).2; omega
  have old : ∀ i, i < m → W3.heap[ps i]? = some (conn (es i)) := by
    intro i hi
    have hp := a6 i hi
    have p2' := k2.obj hp (by
      rintro (e | e)
      · rw [e] at hp; rw [a1] at hp; simp [cns, conn] at hp
      · have := lt_obj (h.conns i hi); omega)
    exact k3.obj p2' (ne_tag e2 p2' (by decide))
  have kk : Kept (fun b => B ≤ b) W1 W3 := (k2.mono (by
    rintro b (e | e)
    · omega
    · omega)).trans (k3.mono (fun b e => by have := (e2.lt b e).1; omega))
  have kk0 : Kept (fun b => B ≤ b) (wr.alloc (conn 0)) W3 := (k1.mono (fun b e => by have := (h0.made.lt b e).1; omega)).trans kk
  refine ⟨kk0.below h0.bel (by have := h0.size; omega) (fun b e => e), by have := kk.size; omega, c3', ?_, ?_, ?_, q3, ?_, ?_, ?_, ?_, ?_, by have := h.mt; omega, by have := h.jt; omega, ?_⟩
  · rw [map_put_js _ _ _ _ _ h.jm]; exact v3
  · rw [map_put]; exact m3
  · rw [map_put (k := fun x => Value.int .i64 x)]; exact o3
  · intro g hg e
    simp [Value.ownBlock] at hg
    subst hg
    exact hne e
  · intro i hi
    by_cases e : i = m
    · subst e; rw [put_self, put_self]; exact k3.obj p2 (ne_tag e2 p2 (by decide))
    · rw [put_lt _ _ _ (by omega), put_lt _ _ _ (by omega)]; exact old i (by omega)
  · intro i hi
    by_cases e : i = m
    · subst e; rw [put_self]; exact hsB
    · rw [put_lt _ _ _ (by omega)]; exact h.up i (by omega)
  · intro i j hi hj hij
    by_cases ei : i = m
    · by_cases ej : j = m
      · omega
      · subst ei; rw [put_self, put_lt _ _ _ (by omega)] at hij
        have := lt_obj (h.conns j (by omega)); omega
    · by_cases ej : j = m
      · subst ej; rw [put_self, put_lt _ _ _ (by omega)] at hij
        have := lt_obj (h.conns i (by omega)); omega
      · rw [put_lt _ _ _ (by omega), put_lt _ _ _ (by omega)] at hij
        exact h.inj i j (by omega) (by omega) hij
  · intro j hj
    have := h.jm j hj; omega
  · intro i hi
    by_cases e : i = m
    · subst e; rw [put_self]; omega
    · rw [put_lt _ _ _ (by omega)]; have := h.eb i (by omega); omega

/-- The inner loop 'exp[j]++' after k rounds; W1: the world behind closeAll. -/
def Raised (B m : Nat) (es : Nat → Int) (js : List Nat) (ev : Value) (W1 wr : World) (k : Nat) : Prop :=
  wr.ownsRow (B + 1) 3 1 ev m ((List.range m).map fun i => .int .i64 (bump es (js.take k) i)) ∧ Kept (fun b => ev.ownBlock = some b) W1 wr

/-- Behind closeAll: the rows stand. -/
theorem St.after_close (h : St B w wr t m ps es js mv ev qv ov shut) {W1 : World} (k1 : Kept (fun b => b = B ∨ ∃ i, i < m ∧ b = ps i) wr W1) {base : Nat} {e : TypeId} {n : Nat} {v : Value} {xs : List Value}
    (hv : wr.ownsRow base e 1 v n xs) (n1 : e ≠ 34) (n2 : e ≠ 39) : W1.ownsRow base e 1 v n xs :=
  k1.row hv (by
    rintro g hg (q | ⟨i, hi, q⟩)
    · subst q; exact ne_tag hv h.c (fun x => n1 x.symm) hg
    · subst q; exact ne_tag hv (h.conns i hi) (fun x => n2 x.symm) hg)

theorem St.raise_start (h : St B w wr t m ps es js mv ev qv ov shut) {W1 : World} (k1 : Kept (fun b => b = B ∨ ∃ i, i < m ∧ b = ps i) wr W1) : Raised B m es js ev W1 W1 0 :=
  ⟨h.after_close k1 h.exp (by decide) (by decide), Kept.refl _ _⟩

/-- A store into a row that is owned. -/
theorem row_set {W : World} {base : Nat} {e : TypeId} {g n cap : Nat} {xs : List Value} (h : W.ownsRow base e 1 (.slice (some ⟨g, 0, none⟩) n cap) n xs) (j : Nat) (u : Value) :
    (W.setCell ⟨g, j, none⟩ u).ownsRow base e 1 (.slice (some ⟨g, 0, none⟩) n cap) n (xs.set j u) := by
  refine ⟨by simpa using h.1, .inr ?_⟩
  rcases h.2 with ⟨hv, _⟩ | ⟨g', cap', cur, hv, hb, hgg, h1, h2, h3, h4⟩
  · simp at hv
  · simp at hv
    obtain ⟨rfl, rfl⟩ := hv
    refine ⟨g, cap, cur.setIfInBounds j u, rfl, hb, heap_setCell_same W g j cur e u hgg, h1, h2, by simpa using h3, ?_⟩
    rw [Array.toList_setIfInBounds, ← h4, List.take_set]

theorem map_upd (m j : Nat) (f : Nat → Int) : (List.range m).map (fun i => Value.int .i64 (upd f j i)) = ((List.range m).map fun i => Value.int .i64 (f i)).set j (.int .i64 (f j + 1)) := by
  apply List.ext_getElem?
  intro i
  rw [List.getElem?_set]
  by_cases hi : i < m
  · by_cases e : j = i
    · subst e; simp [hi, upd]
    · have e' : ¬ i = j := fun h => e h.symm
      simp [hi, upd, e, e']
  · by_cases e : j = i
    · subst e; simp [hi]
    · simp [hi, e]

theorem raise_step {g cap k : Nat} {W1 : World} (h : Raised B m es js (.slice (some ⟨g, 0, none⟩) m cap) W1 wr k) (hk : k < js.length) :
    Raised B m es js (.slice (some ⟨g, 0, none⟩) m cap) W1 (wr.setCell ⟨g, js.getD k 0, none⟩ (.int .i64 (bump es (js.take k) (js.getD k 0) + 1))) (k + 1) := by
  refine ⟨?_, h.2.setCell ⟨g, js.getD k 0, none⟩ rfl _⟩
  rw [take_snoc_getD js k hk, bump_snoc, map_upd]
  exact row_set h.1 _ _

/-- An operation that closes all. -/
theorem St.closed (h : St B w wr t m ps es js mv ev qv ov shut) (ht : t ≤ 1024) {W1 W2 : World} (c1 : W1.heap[B]? = some (cns 0 ov true)) (p1 : ∀ i, i < m → W1.heap[ps i]? = some (conn (bump es js i)))
    (k1 : Kept (fun b => b = B ∨ ∃ i, i < m ∧ b = ps i) wr W1) (hr : Raised B m es js ev W1 W2 js.length) :
    St B w W2 (t + 1) m ps (bump es js) js mv ev qv ov true := by
  obtain ⟨r1, k2⟩ := hr
  rw [List.take_length] at r1
  have e1 := h.after_close k1 h.exp (by decide) (by decide)
  have q1 := h.after_close k1 h.idx (by decide) (by decide)
  have m1 := h.after_close k1 h.made (by decide) (by decide)
  have v1 := h.after_close k1 h.opens (by decide) (by decide)
  have hsB := h.size
  have kk : Kept (fun b => B ≤ b) wr W2 := (k1.mono (by
    rintro b (e | ⟨i, hi, e⟩)
    · omega
    · have := h.up i hi; omega)).trans (k2.mono (fun b e => by have := (e1.lt b e).1; omega))
  refine ⟨kk.below h.bel (by omega) (fun b e => e), by have := kk.size; omega, k2.obj c1 (ne_tag e1 c1 (by decide)), k2.row v1 (fun g hg => ne_rows v1 e1 (by decide) hg), k2.row m1 (fun g hg => ne_rows m1 e1 (by decide) hg), r1, k2.row q1 (fun g hg e => h.off g e hg), h.off,
    fun i hi => k2.obj (p1 i hi) (ne_tag e1 (p1 i hi) (by decide)), h.up, h.inj, h.jm, by have := h.mt; omega, by have := h.jt; omega, ?_⟩
  intro i hi
  have b1 := bump_le js es i
  have b2 := h.eb i hi
  have b3 := h.jt
  omega

/-- A row with something in it lies somewhere. -/
theorem owns_some {W : World} {base : Nat} {e : TypeId} {n L cap : Nat} {a : Option Addr} {xs : List Value} (h : W.ownsRow base e 1 (.slice a L cap) n xs) (hn : 0 < n) : ∃ g, a = some ⟨g, 0, none⟩ := by
  rcases h.2 with ⟨_, h0⟩ | ⟨g, cap', cur, hv, _⟩
  · omega
  · simp at hv; exact ⟨g, hv.1⟩
theorem owns_form {W : World} {base : Nat} {e : TypeId} {n : Nat} {v : Value} {xs : List Value} (h : W.ownsRow base e 1 v n xs) : ∃ a cap, v = .slice a n cap := by
  rcases h.2 with ⟨hv, h0⟩ | ⟨g, cap', cur, hv, _⟩
  · exact ⟨none, 0, by rw [hv, h0]⟩
  · exact ⟨_, cap', hv⟩
theorem row_unfrozen {W : World} {base : Nat} {e : TypeId} {n g L cap : Nat} {xs : List Value} (h : W.ownsRow base e 1 (.slice (some ⟨g, 0, none⟩) L cap) n xs) (j : Nat) : W.frozen? ⟨g, j, none⟩ = false := by
  rcases h.2 with ⟨hv, h0⟩ | ⟨g', cap', cur, hv, _, hg, _⟩
  · simp at hv
  · simp at hv
    obtain ⟨rfl, _, _⟩ := hv
    exact frozen_of_row _ _ _ _ _ hg
theorem map_at (js : List Nat) (f : Nat → Value) (k : Nat) (h : k < js.length) : (js.map f)[k]? = some (f (js.getD k 0)) := by
  rw [List.getElem?_map, List.getD_eq_getElem?_getD, List.getElem?_eq_getElem h]; rfl
theorem range_at (m : Nat) (f : Nat → Value) (i : Nat) (h : i < m) : ((List.range m).map f)[i]? = some (f i) := by
  rw [List.getElem?_map, List.getElem?_range h]; rfl

/-- One round of 'exp[j]++': what the walk is told. -/
theorem St.raise_round {am ae aq : Option Addr} {cm ce cq k : Nat} (h : St B w wr t m ps es js (.slice am m cm) (.slice ae m ce) (.slice aq js.length cq) ov shut) (ht : t ≤ 1024) {W1 wx : World}
    (k1 : Kept (fun b => b = B ∨ ∃ i, i < m ∧ b = ps i) wr W1) (hR : Raised B m es js (.slice ae m ce) W1 wx k) (hk : k < js.length) :
    ∃ (gq ge j : Nat) (z : Int), aq = some ⟨gq, 0, none⟩ ∧ ae = some ⟨ge, 0, none⟩ ∧ j < m ∧ 0 ≤ z ∧ z ≤ 100000000 ∧ wx.cell? ⟨gq, k, none⟩ = some (.int .i64 (j : Int)) ∧ wx.cell? ⟨ge, j, none⟩ = some (.int .i64 z) ∧ wx.frozen? ⟨ge, j, none⟩ = false ∧
      Hid (Raised B m es js (.slice ae m ce) W1 (wx.setCell ⟨ge, j, none⟩ (.int .i64 (z + 1))) (k + 1)) := by
  have hj : js.getD k 0 < m := h.jm _ (getD_mem js k hk)
  obtain ⟨gq, rfl⟩ := owns_some h.idx (by omega)
  obtain ⟨ge, rfl⟩ := owns_some h.exp (by omega)
  have q1 := h.after_close k1 h.idx (by decide) (by decide)
  have qx := hR.2.row q1 (fun g hg e => h.off g e hg)
  have b1 := bump_le (js.take k) es (js.getD k 0)
  have b2 := h.eb _ hj
  have b3 : (js.take k).length ≤ k := List.length_take_le _ _
  have b4 := h.jt
  exact ⟨gq, ge, js.getD k 0, bump es (js.take k) (js.getD k 0), rfl, rfl, hj, by omega, by omega, row_at qx (map_at js _ k hk), row_at hR.1 (range_at m _ _ hj), row_unfrozen hR.1 _, raise_step hR hk⟩

/-- What the last but one loop reads. -/
theorem St.look3 {am ae aq ao : Option Addr} {cm ce cq co : Nat} (h : St B w wr t m ps es js (.slice am m cm) (.slice ae m ce) (.slice aq js.length cq) (.slice ao js.length co) shut) (k : Nat) (hk : k < js.length) :
    ∃ (gq go gm j p : Nat), aq = some ⟨gq, 0, none⟩ ∧ ao = some ⟨go, 0, none⟩ ∧ am = some ⟨gm, 0, none⟩ ∧ j < m ∧ wr.cell? ⟨gq, k, none⟩ = some (.int .i64 (j : Int)) ∧ wr.cell? ⟨go, k, none⟩ = some (ifc p) ∧ wr.cell? ⟨gm, j, none⟩ = some (ptr p) := by
  have hj : js.getD k 0 < m := h.jm _ (getD_mem js k hk)
  obtain ⟨gq, rfl⟩ := owns_some h.idx (by omega)
  obtain ⟨go, rfl⟩ := owns_some h.opens (by omega)
  obtain ⟨gm, rfl⟩ := owns_some h.made (by omega)
  exact ⟨gq, go, gm, js.getD k 0, ps (js.getD k 0), rfl, rfl, rfl, hj, row_at h.idx (map_at js _ k hk), row_at h.opens (map_at js _ k hk), row_at h.made (range_at m _ _ hj)⟩

/-- What the last loop reads. -/
theorem St.look4 {am ae aq : Option Addr} {cm ce cq : Nat} (h : St B w wr t m ps es js (.slice am m cm) (.slice ae m ce) (.slice aq js.length cq) ov shut) (i : Nat) (hi : i < m) :
    ∃ (gm ge p : Nat) (z : Int), am = some ⟨gm, 0, none⟩ ∧ ae = some ⟨ge, 0, none⟩ ∧ wr.cell? ⟨gm, i, none⟩ = some (ptr p) ∧ wr.cell? ⟨p, 1, none⟩ = some (.int .i64 z) ∧ wr.cell? ⟨ge, i, none⟩ = some (.int .i64 z) := by
  obtain ⟨ge, rfl⟩ := owns_some h.exp (by omega)
  obtain ⟨gm, rfl⟩ := owns_some h.made (by omega)
  exact ⟨gm, ge, ps i, es i, rfl, rfl, row_at h.made (range_at m _ _ hi), by rw [cell_of_row _ _ _ _ _ _ (h.conns i hi)]; rfl, row_at h.exp (range_at m _ _ hi)⟩

end

end Go.Proofs.Ybulkdbxq
