/-
  PLAIN: the scan of the earlier IDs ('zzs5161cmodel' after k rounds), the map that the law builds (after k rounds), and that the two agree at every key. No Go in sight.
-/
import Derived.Maps.OwnSet
namespace Go.Proofs.Ybulkdbwa
open Go.Maps

/-- What the scan holds after k rounds: found, end. -/
def scan (ss : List ByteArray) (zs : List Int) (q : ByteArray) : Nat → Bool × Int
  | 0 => (false, 0)
  | k + 1 => if ((ss.getD k ByteArray.empty).toList == q.toList) = true then (true, zs.getD k 0) else scan ss zs q k

theorem scan_hit {ss : List ByteArray} {zs : List Int} {q : ByteArray} {k : Nat} (h : ((ss.getD k ByteArray.empty).toList == q.toList) = true) : scan ss zs q (k + 1) = (true, zs.getD k 0) := by
  simp only [scan]; rw [if_pos h]
theorem scan_miss {ss : List ByteArray} {zs : List Int} {q : ByteArray} {k : Nat} (h : ((ss.getD k ByteArray.empty).toList == q.toList) = false) : scan ss zs q (k + 1) = scan ss zs q k := by
  simp only [scan]; rw [if_neg (by rw [h]; simp)]

/-- The map after k rounds, as a datum. -/
def built (ss : List ByteArray) (zs : List Int) : Nat → DataW Unit
  | 0 => .map []
  | k + 1 => (built ss zs k).put (.string (ss.getD k ByteArray.empty).data.toList) (.lit (.int .i64 (zs.getD k 0)))

theorem built_isMap (ss : List ByteArray) (zs : List Int) : ∀ k, IsMap (built ss zs k)
  | 0 => isMap_empty
  | k + 1 => (built_isMap ss zs k).put _ _

theorem bytes_eq {a b : ByteArray} (h : (a.toList == b.toList) = true) : a.data.toList = b.data.toList := by
  have e : a.toList = b.toList := by simpa using h
  rw [ByteArray.toList_eq, ByteArray.toList_eq] at e
  exact e
theorem bytes_ne {a b : ByteArray} (h : (a.toList == b.toList) = false) : a.data.toList ≠ b.data.toList := by
  intro e
  have : a = b := by
    cases a; cases b; simp at e; rw [e]
  subst this
  simp at h

/-- The map and the scan agree. -/
theorem built_scan (ss : List ByteArray) (zs : List Int) (q : ByteArray) : ∀ k, has (built ss zs k) (.string q.data.toList) = (scan ss zs q k).1 ∧ (built ss zs k).atKey (.string q.data.toList) (.lit (.int .i64 0)) = .lit (.int .i64 (scan ss zs q k).2)
  | 0 => ⟨rfl, rfl⟩
  | k + 1 => by
    obtain ⟨i1, i2⟩ := built_scan ss zs q k
    cases h : ((ss.getD k ByteArray.empty).toList == q.toList)
    · rw [scan_miss h]
      have hne := (bytes_ne h).symm
      have hne' : Lit.string q.data.toList ≠ Lit.string (ss.getD k ByteArray.empty).data.toList := by simpa using hne
      show has ((built ss zs k).put _ _) _ = _ ∧ ((built ss zs k).put _ _).atKey _ _ = _
      rw [has_put_other hne', atKey_put_other hne']
      exact ⟨i1, i2⟩
    · rw [scan_hit h, ← bytes_eq h]
      exact ⟨has_put_same (built_isMap ss zs k) (show WideAt.IsKeyLit (.string _) from trivial) _, atKey_put_same (built_isMap ss zs k) (show WideAt.IsKeyLit (.string _) from trivial) _ _⟩

end Go.Proofs.Ybulkdbwa
