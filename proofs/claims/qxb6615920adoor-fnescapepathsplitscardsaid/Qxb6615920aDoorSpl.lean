/-
  FnEscapePathSplits (3): upperHexVal (11), escapedExactly (7), the law.
-/
import Derived.Test.Qxb6615920aDoorInj
import Derived.Deep.QuietTactic
import Derived.BigQuiet
namespace Go.Proofs.Qxb6615920aDoor
open Go.RowKit

/-- The value of an upper-case hexadecimal digit; -1 for any other byte. -/
def uhv (n : Int) : Int := if 48 ≤ n ∧ n ≤ 57 then n - 48 else if 65 ≤ n ∧ n ≤ 70 then n - 55 else -1
theorem ret_int {k : IntKind} {a b : Int} (h : a = b) : Ending.returned (.int k a) = .returned (.int k b) := by rw [h]
theorem uhv_hexd (k : Nat) (h : k < 16) : uhv (hexd k) = k := by unfold uhv hexd; split <;> (split <;> (try split) <;> omega)

set_option maxHeartbeats 1000000 in
theorem uhv_any (n : Int) (w : World) (h0 : 0 ≤ n) (h1 : n ≤ 255) :
    Calls Tryd.prog 11 #[.int .u8 n] w fun e w' => e = .returned (.int .i64 (uhv n)) ∧ w' = w := by
  rcases (show (48 ≤ n ∧ n ≤ 57) ∨ (65 ≤ n ∧ n ≤ 70) ∨ n < 48 ∨ (57 < n ∧ n < 65) ∨ 70 < n from by omega) with h | h | h | h | h
  · go_enter Tryd.func11, Tryd.ntmps11
    go_wp2
    go_ret
    exact ⟨ret_int (by simp only [uhv]; rw [if_pos h]), rfl⟩
  · go_enter Tryd.func11, Tryd.ntmps11
    go_wp2
    go_ret
    exact ⟨ret_int (by simp only [uhv]; rw [if_neg (by omega), if_pos h]; omega), rfl⟩
  all_goals
    go_enter Tryd.func11, Tryd.ntmps11
    go_wp2
    go_ret
    exact ⟨ret_int (by simp only [uhv]; rw [if_neg (by omega), if_neg (by omega)]), rfl⟩

theorem str_at (xs : List Int) (hx : ∀ x ∈ xs, 0 ≤ x ∧ x < 256) (i : Nat) (h : i < (strOfNums xs).size) : (((strOfNums xs)[i]).toNat : Int) = xs.getD i 0 := by
  have hl : i < xs.length := by rw [strOfNums_size] at h; exact h
  have := congrArg (fun l => l[i]?) (numsOf_str xs hx)
  simp only [numsOf, List.getElem?_map, Array.getElem?_toList] at this
  have hd : (strOfNums xs).data[i]? = some ((strOfNums xs)[i]) := Array.getElem?_eq_getElem (show i < (strOfNums xs).data.size from h)
  rw [hd, List.getElem?_eq_getElem hl] at this
  simp only [Option.map_some, Option.some.injEq] at this
  rw [this]; simp [hl]

/-- Where the j-th byte's escape lies. -/
theorem esc_split (s : ByteArray) (j : Nat) (h : j < s.size) : escL s.data.toList = escL (s.data.toList.take j) ++ (esc1 s[j] ++ escL (s.data.toList.drop (j + 1))) := by
  have hj : j < s.data.toList.length := by simpa using h
  have : s.data.toList = s.data.toList.take j ++ s[j] :: s.data.toList.drop (j + 1) := by
    conv => lhs; rw [← List.take_append_drop j s.data.toList, List.drop_eq_getElem_cons hj]
    rfl
  conv => lhs; rw [this]
  rw [escL_app, escL_cons]

set_option maxRecDepth 100000 in
set_option maxHeartbeats 1000000 in
theorem exact_any (s e : ByteArray) (he : e = strOfNums (escL s.data.toList)) (w : World) (hs : s.size ≤ 1048576) :
    Calls Tryd.prog 7 #[.string e, .string s] w fun x w' => x = .returned (.bool true) ∧ Below w.heap.size w w' := by
  have hes : e.size = (escL s.data.toList).length := by rw [he, strOfNums_size]
  have hel := escL_length s.data.toList
  have hcl := cnt_le s.data.toList
  have heb : e.size ≤ 3 * s.size := by simp at hel hcl; omega
  have HE : Hid (e = strOfNums (escL s.data.toList)) := he
  have HS : Hid (e.size = (escL s.data.toList).length) := hes
  clear he hes hel hcl
  go_enter Tryd.func7, Tryd.ntmps7
  go_wp2
  go_loopw [5, 6] (fun i j wr => ∃ k : Nat, k ≤ s.size ∧ j = .int .i64 k ∧ i = .int .i64 (escL (s.data.toList.take k)).length ∧ Below w.heap.size w wr) (fun _ j _ => s.size - (intOf j).toNat)
  case atStart => exact ⟨0, Nat.zero_le _, rfl, rfl, Below.refl _ _⟩
  case round =>
    obtain ⟨k, hk, rfl, rfl, hb⟩ := hrel
    by_cases hlt : k < s.size
    · have hsp := esc_split s k hlt
      have hsn := escL_snoc s k hlt
      have hat : ∀ (i : Nat) (h : i < e.size), ((e[i]).toNat : Int) = (escL s.data.toList).getD i 0 := by
        intro i h
        have hE := HE.out
        subst hE
        exact str_at _ (escL_range _) i h
      have hEs := HS.out
      rw [hsp] at hat hEs
      generalize escL (s.data.toList.take k) = A at *
      generalize escL (s.data.toList.drop (k + 1)) = R at *
      have hcb : s[k].toNat < 256 := s[k].toNat_lt
      cases hkp : keptB s[k].toNat
      · rw [esc1_esc hkp] at *
        have hl : A.length + 3 ≤ e.size := by rw [hEs]; simp
        clear hEs
        have h0 : ((e[A.length]).toNat : Int) = 37 := by rw [hat _ (by omega)]; simp
        have h1 : ((e[A.length + 1]).toNat : Int) = hexd (s[k].toNat / 16) := by rw [hat _ (by omega)]; simp
        have h2 : ((e[A.length + 2]).toNat : Int) = hexd (s[k].toNat % 16) := by rw [hat _ (by omega)]; simp
        have hu1 := uhv_hexd (s[k].toNat / 16) (by omega)
        have hu2 := uhv_hexd (s[k].toNat % 16) (by omega)
        have hb1 := hexd_lt (s[k].toNat / 16) (by omega)
        have hb2 := hexd_lt (s[k].toNat % 16) (by omega)
        have HN : Hid (escL (s.data.toList.take (k + 1)) = A ++ [37, hexd (s[k].toNat / 16), hexd (s[k].toNat % 16)]) := hsn
        clear hsn hsp hat
        go_wp2_with (first | (go_at_call 11; refine (uhv_any _ _ (by omega) (by omega)).mono ?_; rintro e w' ⟨rfl, rfl⟩))
        rw [show ((s[k].toNat : Int) / 16 * 16 + (s[k].toNat : Int) % 16) = (s[k].toNat : Int) from by omega]
        refine (kept_any _ _ (by omega) (by omega)).mono ?_
        rintro e w' ⟨rfl, rfl⟩
        go_wp2
        go_roundw
        case rel => exact ⟨k + 1, by omega, by go_num, by rw [HN.out]; simp, hb⟩
        case measure => simp [intOf]; omega
      · rw [esc1_kept hkp] at *
        have hl : A.length + 1 ≤ e.size := by rw [hEs]; simp
        clear hEs
        have h0 : ((e[A.length]).toNat : Int) = s[k].toNat := by rw [hat _ (by omega)]; simp
        have h37 : ¬ (s[k].toNat : Int) = 37 := fun e => by rw [e, kept37] at hkp; cases hkp
        have HN : Hid (escL (s.data.toList.take (k + 1)) = A ++ [(s[k].toNat : Int)]) := hsn
        clear hsn hsp hat
        go_wp2
        go_quiet ((go_at_call 12; exact Calls.quiet_of_same (kept_any _ _ (by omega) (by omega))))
        go_wp2
        go_roundw
        case rel => exact ⟨k + 1, by omega, by go_num, by rw [HN.out]; simp, below_drewN hb _⟩
        case measure => simp [intOf]; omega
    · obtain rfl : k = s.size := by omega
      rw [List.take_of_length_le (show s.data.toList.length ≤ s.size by simp), ← HS.out] at *
      go_wp2
      go_ret
      exact ⟨rfl, hb⟩

theorem data_append (a b : ByteArray) : (a ++ b).data.toList = a.data.toList ++ b.data.toList := by simp
theorem app_star {a b : ByteArray} (h2 : (a.toList == [42]) = false) (h3 : (b.toList == [42]) = false) : ((a ++ b).toList == [42]) = false := by
  rw [ByteArray.toList_eq, beq_eq_false_iff_ne] at *
  rw [data_append]
  intro h
  rcases List.append_eq_singleton_iff.1 h with ⟨_, hb⟩ | ⟨ha, _⟩
  · exact h3 hb
  · exact h2 ha
theorem strOfNums_app (x y : List Int) : strOfNums (x ++ y) = strOfNums x ++ strOfNums y := by
  apply toList_inj
  rw [data_append, strOfNums_data, strOfNums_data, strOfNums_data, List.map_append]
theorem ep_app {a b : ByteArray} (h2 : (a.toList == [42]) = false) (h3 : (b.toList == [42]) = false) : ep (a ++ b) = ep a ++ ep b := by
  rw [ep_other (app_star h2 h3), ep_other h2, ep_other h3, data_append, escL_app, strOfNums_app]
theorem ep_le (a : ByteArray) : (ep a).size ≤ 3 * a.size + 1 := by
  have h := ep_size a
  have hc := cnt_le a.data.toList
  simp at hc
  split at h <;> omega

set_option maxRecDepth 100000 in
set_option maxHeartbeats 1000000 in
theorem spl_any (a b : ByteArray) (w : World) (ha : a.size ≤ maxLen) (hb : b.size ≤ maxLen) (ht : Tab w) :
    Calls Tryd.prog 3 #[.string a, .string b] w fun e w' => e = .returned (.bool true) ∧ Below w.heap.size w w' := by
  by_cases h1 : a.size + b.size ≤ 1048576
  · cases h2 : (a.toList == [42])
    · cases h3 : (b.toList == [42])
      · go_enter Tryd.func3, Tryd.ntmps3
        go_wp2_with (first | (go_at_call 5; refine (bound5_any _ _ _ ha hb).mono ?_; rintro e w' ⟨rfl, rfl⟩))
        refine (zz_any a _ (by omega) ht).mono ?_
        rintro e w1 ⟨rfl, hb1⟩
        go_wp2_with fail
        refine (zz_any b _ (by omega) (ht.below hb1 ht.1)).mono ?_
        rintro e w2 ⟨rfl, hb2⟩
        go_wp2_with fail
        refine (zz_any (a ++ b) _ (by rw [ByteArray.size_append]; omega) (ht.below (hb1.trans (hb2.mono hb1.size)) ht.1)).mono ?_
        rintro e w3 ⟨rfl, hb3⟩
        rw [ep_app h2 h3]
        have hsa := ep_le a
        have hsb := ep_le b
        go_wp2_with fail
        refine (exact_any (a ++ b) _ (by rw [← ep_app h2 h3, ep_other (app_star h2 h3)]) _ (by rw [ByteArray.size_append]; omega)).mono ?_
        rintro e w4 ⟨rfl, hb4⟩
        go_wp2
        go_ret
        exact ⟨rfl, ((hb1.trans (hb2.mono hb1.size)).trans (hb3.mono (hb1.trans (hb2.mono hb1.size)).size)).trans (hb4.mono ((hb1.trans (hb2.mono hb1.size)).trans (hb3.mono (hb1.trans (hb2.mono hb1.size)).size)).size)⟩
      · go_enter Tryd.func3, Tryd.ntmps3
        go_wp2_with (first | (go_at_call 5; refine (bound5_any _ _ _ ha hb).mono ?_; rintro e w' ⟨rfl, rfl⟩))
        go_ret
        exact ⟨rfl, Below.refl _ _⟩
    · go_enter Tryd.func3, Tryd.ntmps3
      go_wp2_with (first | (go_at_call 5; refine (bound5_any _ _ _ ha hb).mono ?_; rintro e w' ⟨rfl, rfl⟩))
      go_ret
      exact ⟨rfl, Below.refl _ _⟩
  · go_enter Tryd.func3, Tryd.ntmps3
    go_wp2_with (first | (go_at_call 5; refine (bound5_any _ _ _ ha hb).mono ?_; rintro e w' ⟨rfl, rfl⟩))
    go_ret
    exact ⟨rfl, Below.refl _ _⟩
end Go.Proofs.Qxb6615920aDoor
