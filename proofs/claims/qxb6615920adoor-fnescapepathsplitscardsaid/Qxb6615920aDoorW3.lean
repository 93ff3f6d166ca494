/-
  escapePath: ZZescapePath (6), escapePath (10), (*URL).EscapedPath (13).
-/
import Derived.Test.Qxb6615920aDoorW2
namespace Go.Proofs.Qxb6615920aDoor
open Go.RowKit

/-- What escapePath answers: the escaped text; an asterisk alone stays. -/
def ep (p : ByteArray) : ByteArray := if (p.toList == [42]) = true then ⟨#[42]⟩ else strOfNums (escL p.data.toList)
theorem ep_star {p : ByteArray} (h : (p.toList == [42]) = true) : ep p = ⟨#[42]⟩ := by rw [ep, if_pos h]
theorem ep_other {p : ByteArray} (h : (p.toList == [42]) = false) : ep p = strOfNums (escL p.data.toList) := by rw [ep, if_neg (by simp [h])]

theorem Tab.alloc {w : World} (h : Tab w) (o : Obj) : Tab (w.alloc o) := h.below ((Below.refl _ _).alloc (Nat.le_refl _) o) h.1

set_option maxRecDepth 100000 in
set_option maxHeartbeats 1000000 in
theorem zz_any (p : ByteArray) (w : World) (hs : p.size ≤ 1048576) (ht : Tab w) :
    Calls Tryd.prog 6 #[.string p] w fun e w' => e = .returned (.string (ep p)) ∧ Below w.heap.size w w' := by
  cases h : (p.toList == [42])
  · go_enter Tryd.func6, Tryd.ntmps6
    go_wp2_with (first | (go_at_call 16; refine (escape_any _ _ hs (ht.alloc _)).mono ?_; rintro e w' ⟨rfl, hb⟩) | go_in)
    go_ret
    exact ⟨ret_str (ep_other h).symm, ((Below.refl _ _).alloc (Nat.le_refl _) _).trans (hb.mono (by simp))⟩
  · go_enter Tryd.func6, Tryd.ntmps6
    go_wp2
    go_ret
    exact ⟨ret_str (ep_star h).symm, (Below.refl _ _).alloc (Nat.le_refl _) _⟩

set_option maxHeartbeats 1000000 in
theorem escapedLen_any (s : ByteArray) (w : World) (hs : s.size ≤ 1048576) :
    Calls Tryd.prog 9 #[.string s] w fun e w' => e = .returned (.int .i64 (if (s.toList == [42]) = true then 1 else s.size + 2 * cnt s.data.toList)) ∧ w' = w := by
  cases h : (s.toList == [42])
  · go_enter Tryd.func9, Tryd.ntmps9
    go_wp2
    go_loop [3, 4] (fun n i => ∃ k : Nat, k ≤ s.size ∧ i = .int .i64 k ∧ n = .int .i64 (s.size + 2 * cnt (s.data.toList.take k))) (fun _ i => s.size - (intOf i).toNat)
    case atStart => exact ⟨0, Nat.zero_le _, rfl, rfl⟩
    case round =>
      obtain ⟨k, hk, rfl, rfl⟩ := hrel
      have hcn := cnt_take_le s k
      by_cases hlt : k < s.size
      · have hcb : s[k].toNat < 256 := s[k].toNat_lt
        cases hkp : keptB s[k].toNat
        · have HS : Hid (cnt (s.data.toList.take (k + 1)) = cnt (s.data.toList.take k) + 1) := cnt_esc s k hlt hkp
          go_wp2_with (go_at_call 12; refine (kept_any _ _ (by omega) (by omega)).mono ?_; rintro e w' ⟨rfl, rfl⟩)
          go_round
          case rel => exact ⟨k + 1, by omega, by go_num, by rw [HS.out]; go_num⟩
          case measure => simp [intOf]; omega
        · have HS : Hid (cnt (s.data.toList.take (k + 1)) = cnt (s.data.toList.take k)) := cnt_kept s k hlt hkp
          go_wp2_with (go_at_call 12; refine (kept_any _ _ (by omega) (by omega)).mono ?_; rintro e w' ⟨rfl, rfl⟩)
          go_round
          case rel => exact ⟨k + 1, by omega, by go_num, by rw [HS.out]⟩
          case measure => simp [intOf]; omega
      · obtain rfl : k = s.size := by omega
        rw [List.take_of_length_le (show s.data.toList.length ≤ s.size by simp)] at *
        go_wp2
        go_ret
        exact ⟨by simp, rfl⟩
  · go_enter Tryd.func9, Tryd.ntmps9
    go_wp2
    go_ret
    exact ⟨by simp, rfl⟩
end Go.Proofs.Qxb6615920aDoor
