/-
  THE LEAF WALKS: keptInPath (12), shouldEscape (17), upperHexVal (11), the two byte bounds (5, 8).
-/
import Derived.Test.Qxb6615920aDoorRows
import Derived.WalkKit
import Derived.WalkSpells
import Derived.WalkLawsBesides
namespace Go.Proofs.Qxb6615920aDoor
open Go.RowKit

/-- The bytes that stand unescaped in a path. -/
def keptB (n : Int) : Bool :=
  decide (97 ≤ n ∧ n ≤ 122) || decide (65 ≤ n ∧ n ≤ 90) || decide (48 ≤ n ∧ n ≤ 57) ||
    (n == 45 || n == 95 || n == 46 || n == 126 || n == 36 || n == 38 || n == 43 || n == 44 || n == 47 || n == 58 || n == 59 || n == 61 || n == 64)

theorem keptB_true {n : Int} (h : (97 ≤ n ∧ n ≤ 122) ∨ (65 ≤ n ∧ n ≤ 90) ∨ (48 ≤ n ∧ n ≤ 57) ∨ n = 45 ∨ n = 95 ∨ n = 46 ∨ n = 126 ∨ n = 36 ∨ n = 38 ∨ n = 43 ∨ n = 44 ∨ n = 47 ∨ n = 58 ∨ n = 59 ∨ n = 61 ∨ n = 64) : keptB n = true := by
  simp only [keptB, Bool.or_eq_true, decide_eq_true_eq, beq_iff_eq]; omega
theorem keptB_false {n : Int} (h : ¬ ((97 ≤ n ∧ n ≤ 122) ∨ (65 ≤ n ∧ n ≤ 90) ∨ (48 ≤ n ∧ n ≤ 57) ∨ n = 45 ∨ n = 95 ∨ n = 46 ∨ n = 126 ∨ n = 36 ∨ n = 38 ∨ n = 43 ∨ n = 44 ∨ n = 47 ∨ n = 58 ∨ n = 59 ∨ n = 61 ∨ n = 64)) : keptB n = false := by
  rw [← Bool.not_eq_true]; simp only [keptB, Bool.or_eq_true, decide_eq_true_eq, beq_iff_eq]; omega
theorem ret_true {b : Bool} (h : b = true) : Ending.returned (.bool true) = .returned (.bool b) := by rw [h]
theorem ret_false {b : Bool} (h : b = false) : Ending.returned (.bool false) = .returned (.bool b) := by rw [h]

set_option linter.unusedSimpArgs false in
set_option maxHeartbeats 1000000 in
theorem kept_any (n : Int) (w : World) (h0 : 0 ≤ n) (h1 : n ≤ 255) :
    Calls Tryd.prog 12 #[.int .u8 n] w fun e w' => e = .returned (.bool (keptB n)) ∧ w' = w := by
  rcases (show (97 ≤ n ∧ n ≤ 122) ∨ (65 ≤ n ∧ n ≤ 90) ∨ (48 ≤ n ∧ n ≤ 57) ∨ n < 48 ∨ (57 < n ∧ n < 65) ∨ (90 < n ∧ n < 97) ∨ 122 < n from by omega) with h | h | h | h | h | h | h
  all_goals
    go_enter Tryd.func12, Tryd.ntmps12
    go_wp2
  all_goals
    go_ret
    refine ⟨?_, rfl⟩
    first
      | (refine ret_true (b := keptB n) ?_; refine keptB_true ?_; (try simp only [beq_iff_eq, beq_eq_false_iff_ne, ne_eq] at *); omega)
      | (refine ret_false (b := keptB n) ?_; refine keptB_false ?_; (try simp only [beq_iff_eq, beq_eq_false_iff_ne, ne_eq] at *); omega)

/-- Go's own table: 'net/url.table'. -/
def tabL : List Int := [0, 0, 0, 0, 0, 0, 0, 0, 0, 0, 0, 0, 0, 0, 0, 0, 0, 0, 0, 0, 0, 0, 0, 0, 0, 0, 0, 0, 0, 0, 0, 0, 0, 76, 12, 0, 95, 0, 95, 12, 76, 76, 76, 95, 93, 127, 127, 65, 255, 255, 255, 255, 255, 255, 255, 255, 255, 255, 79, 93, 12, 95, 12, 64, 67, 255, 255, 255, 255, 255, 255, 127, 127, 127, 127, 127, 127, 127, 127, 127, 127, 127, 127, 127, 127, 127, 127, 127, 127, 127, 127, 12, 0, 12, 0, 127, 0, 255, 255, 255, 255, 255, 255, 127, 127, 127, 127, 127, 127, 127, 127, 127, 127, 127, 127, 127, 127, 127, 127, 127, 127, 127, 127, 0, 0, 0, 127, 0, 0, 0, 0, 0, 0, 0, 0, 0, 0, 0, 0, 0, 0, 0, 0, 0, 0, 0, 0, 0, 0, 0, 0, 0, 0, 0, 0, 0, 0, 0, 0, 0, 0, 0, 0, 0, 0, 0, 0, 0, 0, 0, 0, 0, 0, 0, 0, 0, 0, 0, 0, 0, 0, 0, 0, 0, 0, 0, 0, 0, 0, 0, 0, 0, 0, 0, 0, 0, 0, 0, 0, 0, 0, 0, 0, 0, 0, 0, 0, 0, 0, 0, 0, 0, 0, 0, 0, 0, 0, 0, 0, 0, 0, 0, 0, 0, 0, 0, 0, 0, 0, 0, 0, 0, 0, 0, 0, 0, 0, 0, 0, 0, 0, 0, 0, 0, 0, 0, 0, 0, 0, 0, 0, 0, 0, 0, 0, 0]

theorem tab_kept0 : ∀ n : Fin 256, (bits BinOp.and IntKind.u8 (tabL[n.val]?.getD 0) 1 == 0) = !keptB n.val := by decide +kernel
theorem tab_kept (n : Nat) (h : n < 256) : (bits BinOp.and IntKind.u8 (tabL[n]?.getD 0) 1 == 0) = !keptB n := tab_kept0 ⟨n, h⟩
theorem ret_bool {a b : Bool} (h : a = b) : Ending.returned (.bool a) = .returned (.bool b) := by rw [h]

/-- What the walks are told of the table. -/
def Tab (w : World) : Prop := 0 < w.heap.size ∧ ∀ i, i < 256 → w.cell? ⟨0, i, none⟩ = some (.int .u8 (tabL.getD i 0))

set_option maxHeartbeats 1000000 in
theorem should_any (z : Int) (w : World) (h0 : 0 ≤ z) (hz : z ≤ 255) (ht : Tab w) :
    Calls Tryd.prog 17 #[.int .u8 z, .int .u8 1] w fun e w' => e = .returned (.bool (!keptB z)) ∧ w' = w := by
  obtain ⟨n, rfl⟩ := Int.eq_ofNat_of_zero_le h0
  have h1 : n < 256 := by omega
  have hc := ht.2 n h1
  go_enter Tryd.func17, Tryd.ntmps17
  go_wp2
  go_ret
  exact ⟨ret_bool (tab_kept n h1), rfl⟩

set_option maxHeartbeats 1000000 in
theorem bound5_any (a b : ByteArray) (w : World) (ha : a.size ≤ maxLen) (hb : b.size ≤ maxLen) :
    Calls Tryd.prog 5 #[.string a, .string b] w fun e w' => e = .returned (.bool (decide (a.size + b.size ≤ 1048576))) ∧ w' = w := by
  unfold maxLen at ha hb
  by_cases h1 : a.size ≤ 1048576
  · by_cases h2 : b.size ≤ 1048576
    · by_cases h3 : a.size + b.size ≤ 1048576
      all_goals
        go_enter Tryd.func5, Tryd.ntmps5
        go_wp2
        go_ret
        exact ⟨by simp [h3], rfl⟩
    · go_enter Tryd.func5, Tryd.ntmps5
      go_wp2
      go_ret
      exact ⟨ret_false (by simp; omega), rfl⟩
  · go_enter Tryd.func5, Tryd.ntmps5
    go_wp2
    go_ret
    exact ⟨ret_false (by simp; omega), rfl⟩
set_option maxHeartbeats 1000000 in
theorem bound8_any (a b : ByteArray) (w : World) (ha : a.size ≤ maxLen) (hb : b.size ≤ maxLen) :
    Calls Tryd.prog 8 #[.string a, .string b] w fun e w' => e = .returned (.bool (decide (a.size + b.size ≤ 1048576))) ∧ w' = w := by
  unfold maxLen at ha hb
  by_cases h1 : a.size ≤ 1048576
  · by_cases h2 : b.size ≤ 1048576
    · by_cases h3 : a.size + b.size ≤ 1048576
      all_goals
        go_enter Tryd.func8, Tryd.ntmps8
        go_wp2
        go_ret
        exact ⟨by simp [h3], rfl⟩
    · go_enter Tryd.func8, Tryd.ntmps8
      go_wp2
      go_ret
      exact ⟨ret_false (by simp; omega), rfl⟩
  · go_enter Tryd.func8, Tryd.ntmps8
    go_wp2
    go_ret
    exact ⟨ret_false (by simp; omega), rfl⟩
end Go.Proofs.Qxb6615920aDoor
