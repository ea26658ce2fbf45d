/-
  THE CONTRACT OF 'zzs5161cmodel' (function 15): it computes the plain scan.
-/
import Derived.Test.YbulkdbwaFollows
import Derived.Test.YbulkdbwaModelScan
import Derived.WalkKit
import Derived.WalkSpells
namespace Go.Proofs.Ybulkdbwa
open Go.RowKit

theorem ret_bool {a b : Bool} (h : a = b) : Ending.returned (.bool a) = .returned (.bool b) := by rw [h]

set_option maxRecDepth 10000 in
set_option maxHeartbeats 400000 in
/-- The store's own ID. -/
theorem model_own (sid : ByteArray) (k1 : Option Addr) (l1 c1 : Nat) (k2 : Option Addr) (l2 c2 : Nat) (n : Nat) (qid : ByteArray) (rev : Int) (w : World) (h : (qid.toList == sid.toList) = true) :
    Calls Yba.prog 15 #[.string sid, .slice k1 l1 c1, .slice k2 l2 c2, .int .i64 n, .string qid, .int .i64 rev] w fun e w' => e = .returned (.bool true) ∧ w' = w := by
  go_enter Yba.func15, Yba.ntmps15
  go_wp2
  go_ret
  exact ⟨rfl, rfl⟩

set_option maxRecDepth 10000 in
set_option maxHeartbeats 400000 in
/-- Another ID, no entry at all. -/
theorem model_none (sid : ByteArray) (k1 : Option Addr) (l1 c1 : Nat) (k2 : Option Addr) (l2 c2 : Nat) (qid : ByteArray) (rev : Int) (w : World) (h : (qid.toList == sid.toList) = false) :
    Calls Yba.prog 15 #[.string sid, .slice k1 l1 c1, .slice k2 l2 c2, .int .i64 0, .string qid, .int .i64 rev] w fun e w' => e = .returned (.bool false) ∧ w' = w := by
  go_enter Yba.func15, Yba.ntmps15
  go_wp2
  refine wp_loop_rounds 1 ?_
  rw [rounds_succ]
  go_wp2
  go_ret
  exact ⟨rfl, rfl⟩

set_option maxRecDepth 10000 in
set_option maxHeartbeats 1000000 in
/-- Another ID: the scan. -/
theorem model_scan (sid : ByteArray) (b1 o1 l1 c1 b2 o2 l2 c2 : Nat) (n : Nat) (qid : ByteArray) (rev : Int) (ss : List ByteArray) (zs : List Int) (w : World)
    (h : (qid.toList == sid.toList) = false) (hn1 : n ≤ l1) (hn2 : n ≤ l2) (hn : n ≤ 1024)
    (hc1 : ∀ i, i < n → w.cell? ⟨b1, o1 + i, none⟩ = some (.string (ss.getD i ByteArray.empty)))
    (hc2 : ∀ i, i < n → w.cell? ⟨b2, o2 + i, none⟩ = some (.int .i64 (zs.getD i 0))) :
    Calls Yba.prog 15 #[.string sid, .slice (some ⟨b1, o1, none⟩) l1 c1, .slice (some ⟨b2, o2, none⟩) l2 c2, .int .i64 n, .string qid, .int .i64 rev] w
      fun e w' => e = .returned (.bool ((scan ss zs qid n).1 && decide (rev ≤ (scan ss zs qid n).2))) ∧ w' = w := by
  go_enter Yba.func15, Yba.ntmps15
  go_wp2
  go_loop [13, 14, 15] (fun f d i => ∃ k : Nat, k ≤ n ∧ i = .int .i64 k ∧ f = .bool (scan ss zs qid k).1 ∧ d = .int .i64 (scan ss zs qid k).2) (fun _ _ i => n - (intOf i).toNat)
  case atStart => exact ⟨0, Nat.zero_le _, rfl, rfl, rfl⟩
  case round =>
    obtain ⟨k, hk, rfl, rfl, rfl⟩ := hrel
    by_cases hlt : k < n
    · have g1 := hc1 k hlt
      have g2 := hc2 k hlt
      clear hc1 hc2
      rw [List.getD_eq_getElem?_getD] at g1 g2
      cases hq : ((ss[k]?.getD ByteArray.empty).toList == qid.toList)
      · have HS : Hid (scan ss zs qid (k + 1) = scan ss zs qid k) := scan_miss (by rw [List.getD_eq_getElem?_getD]; exact hq)
        go_wp2
        go_round
        case rel => exact ⟨k + 1, by omega, by go_num, by rw [HS.out], by rw [HS.out]⟩
        case measure => simp [intOf]; omega
      · have HS : Hid (scan ss zs qid (k + 1) = (true, zs.getD k 0)) := scan_hit (by rw [List.getD_eq_getElem?_getD]; exact hq)
        go_wp2
        go_round
        case rel => exact ⟨k + 1, by omega, by go_num, by rw [HS.out], by rw [HS.out]; simp⟩
        case measure => simp [intOf]; omega
    · have hk' : k = n := by omega
      clear hc1 hc2
      cases hs : (scan ss zs qid k).1
      · go_wp2
        go_ret
        exact ⟨ret_bool (by rw [← hk', hs]; simp), rfl⟩
      · go_wp2
        go_ret
        exact ⟨ret_bool (by rw [← hk', hs]; simp), rfl⟩

end Go.Proofs.Ybulkdbwa
