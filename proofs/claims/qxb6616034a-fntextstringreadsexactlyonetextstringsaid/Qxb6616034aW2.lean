/-
  cborHead (14) where argument bytes follow.
-/
import Derived.Test.Qxb6616034aW1
namespace Go.Proofs.Qxb6616034a
open Go.RowKit

theorem or_add8 (a b : Nat) (h : b < 256) : a * 256 ||| b = a * 256 + b := by
  have := Nat.two_pow_add_eq_or_of_lt (i := 8) h a
  rw [show a * 256 = 2 ^ 8 * a from by rw [Nat.mul_comm], ← this]
theorem or8 (A z : Int) (h0 : 0 ≤ A) (h1 : A < 72057594037927936) (h2 : 0 ≤ z) (h3 : z < 256) : bits BinOp.or IntKind.u64 (A * 256) z = A * 256 + z := by
  obtain ⟨a, rfl⟩ := Int.eq_ofNat_of_zero_le h0
  obtain ⟨b, rfl⟩ := Int.eq_ofNat_of_zero_le h2
  have := u64_or_nat (a * 256) b (by omega) (by omega)
  rw [or_add8 a b (by omega)] at this
  simpa using this

/-- How long a head is whose first byte bears the additional information i (24 to 27). -/
def hsz (i : Int) : Nat := if i = 24 then 2 else if i = 25 then 3 else if i = 26 then 5 else 9

theorem be_lt (l : List Int) (h : ∀ z ∈ l, 0 ≤ z ∧ z < 256) (hl : l.length ≤ 7) : 0 ≤ be l ∧ be l < 72057594037927936 := by
  have h1 := be_range l h
  refine ⟨h1.1, Int.lt_of_lt_of_le h1.2 ?_⟩
  have h2 : 256 ^ l.length ≤ 72057594037927936 := Nat.le_trans (Nat.pow_le_pow_right (by decide) hl) (by decide)
  have h3 := Int.ofNat_le.2 h2
  rw [Int.natCast_pow] at h3
  exact h3

theorem tail_take (xs : List Int) (k : Nat) (h : k + 1 < xs.length) : (xs.drop 1).take (k + 1) = (xs.drop 1).take k ++ [xs.getD (k + 1) 0] := by
  rw [List.take_succ_eq_append_getElem (by simp; omega)]
  simp [List.getD, List.getElem?_eq_getElem h]
theorem tail_range {xs : List Int} (hr : ∀ z ∈ xs, 0 ≤ z ∧ z < 256) (k : Nat) : ∀ z ∈ (xs.drop 1).take k, 0 ≤ z ∧ z < 256 :=
  fun z hz => hr z (List.mem_of_mem_drop (List.mem_of_mem_take hz))
theorem getD_range {xs : List Int} (hr : ∀ z ∈ xs, 0 ≤ z ∧ z < 256) (k : Nat) : 0 ≤ xs.getD k 0 ∧ xs.getD k 0 < 256 := by
  by_cases h : k < xs.length
  · have : xs.getD k 0 = xs[k] := by simp [h]
    rw [this]; exact hr _ (List.getElem_mem h)
  · have : xs.getD k 0 = 0 := by simp [List.getD, List.getElem?_eq_none (by omega : xs.length ≤ k)]
    rw [this]; decide

set_option maxRecDepth 100000 in
set_option maxHeartbeats 1000000 in
theorem head_short (g o n c : Nat) (x : Int) (w : World) (hn : 0 < n) (hn2 : n ≤ 2097152) (h0 : 0 ≤ x) (h1 : x < 256) (hc : w.cell? ⟨g, o, none⟩ = some (.int .u8 x)) (hi : 24 ≤ x % 32) (hi2 : x % 32 ≤ 27) (hs : n < hsz (x % 32)) :
    Calls Try.prog 14 #[.slice (some ⟨g, o, none⟩) n c] w fun e w' => e = .returned (.tuple #[.int .u8 0, .int .u8 0, .int .u64 0, .int .i64 0]) ∧ ∃ q, w' = w.drewN q := by
  have ha := and31 x h0 h1
  rcases (show x % 32 = 24 ∨ x % 32 = 25 ∨ x % 32 = 26 ∨ x % 32 = 27 from by omega) with hx | hx | hx | hx
  all_goals
    rw [hx] at hs ha
    simp [hsz] at hs
    go_enter Try.func14, Try.ntmps14
    go_wp2
    go_quiet (fail)
    go_wp2
    refine bodyPost_ret (results_tmp4 rfl _ _ _) rfl ?_
    exact ⟨rfl, _, rfl⟩

set_option maxRecDepth 100000 in
set_option maxHeartbeats 1000000 in
theorem head_long (g o n c : Nat) (xs : List Int) (x : Int) (w : World) (hxs : xs.length = n) (hr : ∀ z ∈ xs, 0 ≤ z ∧ z < 256) (hn2 : c ≤ 2097152) (hnc : n ≤ c) (hx0 : xs.getD 0 0 = x) (h0 : 0 ≤ x) (h1 : x < 256)
    (hc : ∀ i, i < xs.length → w.cell? ⟨g, o + i, none⟩ = some (.int .u8 (xs.getD i 0))) (hi : 24 ≤ x % 32) (hi2 : x % 32 ≤ 27) (hs : hsz (x % 32) ≤ n) :
    Calls Try.prog 14 #[.slice (some ⟨g, o, none⟩) n c] w fun e w' => e = .returned (.tuple #[.int .u8 (x / 32), .int .u8 (x % 32), .int .u64 (be ((xs.drop 1).take (hsz (x % 32) - 1))), .int .i64 (hsz (x % 32))]) ∧ ∃ q, w' = w.drewN q := by
  have ha := and31 x h0 h1
  have hn0 : 0 < n := by unfold hsz at hs; split at hs <;> (try split at hs) <;> (try split at hs) <;> omega
  have hc0 := hc 0 (by omega)
  rw [hx0, Nat.add_zero] at hc0
  have HX0 : Hid (xs.getD 0 0 = x) := hx0
  have HXS : Hid (xs.length = n) := hxs
  clear hx0 hxs
  rcases (show x % 32 = 24 ∨ x % 32 = 25 ∨ x % 32 = 26 ∨ x % 32 = 27 from by omega) with hx | hx | hx | hx
  · rw [hx] at hs ha ⊢
    simp [hsz] at hs
    simp only [show hsz 24 = 2 from rfl]
    go_enter Try.func14, Try.ntmps14
    go_wp2
    go_quiet (fail)
    go_wp2
    go_loop [4, 41] (fun a i => ∃ k : Nat, k ≤ 1 ∧ i = .int .i64 k ∧ a = .int .u64 (be ((xs.drop 1).take k))) (fun _ i => 1 - (intOf i).toNat)
    case atStart => exact ⟨0, Nat.zero_le _, rfl, rfl⟩
    case round =>
      obtain ⟨k, hk, rfl, rfl⟩ := hrel
      by_cases hlt : k < 1
      · have hck := hc (k + 1) (by rw [HXS.out]; omega)
        have HS : Hid (be ((xs.drop 1).take (k + 1)) = be ((xs.drop 1).take k) * 256 + xs.getD (k + 1) 0) := by
          show _ = _
          rw [tail_take xs k (by rw [HXS.out]; omega), be_snoc]
        have hA := be_lt ((xs.drop 1).take k) (tail_range hr k) (by simp; omega)
        have hz := getD_range hr (k + 1)
        have hor := or8 _ _ hA.1 hA.2 hz.1 hz.2
        have HK : Hid (o + 1 + k = o + (k + 1)) := by show _ = _; omega
        rw [← HK.out] at hck
        generalize be ((xs.drop 1).take k) = A at *
        generalize xs.getD (k + 1) 0 = z at *
        go_wp2
        go_round
        case rel => exact ⟨k + 1, by omega, by go_num, by rw [HS.out]⟩
        case measure => simp [intOf]; omega
      · obtain rfl : k = 1 := by omega
        go_wp2
        refine bodyPost_ret (results_tmp4 rfl _ _ _) rfl ?_
        exact ⟨rfl, _, rfl⟩
  · rw [hx] at hs ha ⊢
    simp [hsz] at hs
    simp only [show hsz 25 = 3 from rfl]
    go_enter Try.func14, Try.ntmps14
    go_wp2
    go_quiet (fail)
    go_wp2
    go_loop [4, 41] (fun a i => ∃ k : Nat, k ≤ 2 ∧ i = .int .i64 k ∧ a = .int .u64 (be ((xs.drop 1).take k))) (fun _ i => 2 - (intOf i).toNat)
    case atStart => exact ⟨0, Nat.zero_le _, rfl, rfl⟩
    case round =>
      obtain ⟨k, hk, rfl, rfl⟩ := hrel
      by_cases hlt : k < 2
      · have hck := hc (k + 1) (by rw [HXS.out]; omega)
        have HS : Hid (be ((xs.drop 1).take (k + 1)) = be ((xs.drop 1).take k) * 256 + xs.getD (k + 1) 0) := by
          show _ = _
          rw [tail_take xs k (by rw [HXS.out]; omega), be_snoc]
        have hA := be_lt ((xs.drop 1).take k) (tail_range hr k) (by simp; omega)
        have hz := getD_range hr (k + 1)
        have hor := or8 _ _ hA.1 hA.2 hz.1 hz.2
        have HK : Hid (o + 1 + k = o + (k + 1)) := by show _ = _; omega
        rw [← HK.out] at hck
        generalize be ((xs.drop 1).take k) = A at *
        generalize xs.getD (k + 1) 0 = z at *
        go_wp2
        go_round
        case rel => exact ⟨k + 1, by omega, by go_num, by rw [HS.out]⟩
        case measure => simp [intOf]; omega
      · obtain rfl : k = 2 := by omega
        go_wp2
        refine bodyPost_ret (results_tmp4 rfl _ _ _) rfl ?_
        exact ⟨rfl, _, rfl⟩
  · rw [hx] at hs ha ⊢
    simp [hsz] at hs
    simp only [show hsz 26 = 5 from rfl]
    go_enter Try.func14, Try.ntmps14
    go_wp2
    go_quiet (fail)
    go_wp2
    go_loop [4, 41] (fun a i => ∃ k : Nat, k ≤ 4 ∧ i = .int .i64 k ∧ a = .int .u64 (be ((xs.drop 1).take k))) (fun _ i => 4 - (intOf i).toNat)
    case atStart => exact ⟨0, Nat.zero_le _, rfl, rfl⟩
    case round =>
      obtain ⟨k, hk, rfl, rfl⟩ := hrel
      by_cases hlt : k < 4
      · have hck := hc (k + 1) (by rw [HXS.out]; omega)
        have HS : Hid (be ((xs.drop 1).take (k + 1)) = be ((xs.drop 1).take k) * 256 + xs.getD (k + 1) 0) := by
          show _ = _
          rw [tail_take xs k (by rw [HXS.out]; omega), be_snoc]
        have hA := be_lt ((xs.drop 1).take k) (tail_range hr k) (by simp; omega)
        have hz := getD_range hr (k + 1)
        have hor := or8 _ _ hA.1 hA.2 hz.1 hz.2
        have HK : Hid (o + 1 + k = o + (k + 1)) := by show _ = _; omega
        rw [← HK.out] at hck
        generalize be ((xs.drop 1).take k) = A at *
        generalize xs.getD (k + 1) 0 = z at *
        go_wp2
        go_round
        case rel => exact ⟨k + 1, by omega, by go_num, by rw [HS.out]⟩
        case measure => simp [intOf]; omega
      · obtain rfl : k = 4 := by omega
        go_wp2
        refine bodyPost_ret (results_tmp4 rfl _ _ _) rfl ?_
        exact ⟨rfl, _, rfl⟩
  · rw [hx] at hs ha ⊢
    simp [hsz] at hs
    simp only [show hsz 27 = 9 from rfl]
    go_enter Try.func14, Try.ntmps14
    go_wp2
    go_quiet (fail)
    go_wp2
    go_loop [4, 41] (fun a i => ∃ k : Nat, k ≤ 8 ∧ i = .int .i64 k ∧ a = .int .u64 (be ((xs.drop 1).take k))) (fun _ i => 8 - (intOf i).toNat)
    case atStart => exact ⟨0, Nat.zero_le _, rfl, rfl⟩
    case round =>
      obtain ⟨k, hk, rfl, rfl⟩ := hrel
      by_cases hlt : k < 8
      · have hck := hc (k + 1) (by rw [HXS.out]; omega)
        have HS : Hid (be ((xs.drop 1).take (k + 1)) = be ((xs.drop 1).take k) * 256 + xs.getD (k + 1) 0) := by
          show _ = _
          rw [tail_take xs k (by rw [HXS.out]; omega), be_snoc]
        have hA := be_lt ((xs.drop 1).take k) (tail_range hr k) (by simp; omega)
        have hz := getD_range hr (k + 1)
        have hor := or8 _ _ hA.1 hA.2 hz.1 hz.2
        have HK : Hid (o + 1 + k = o + (k + 1)) := by show _ = _; omega
        rw [← HK.out] at hck
        generalize be ((xs.drop 1).take k) = A at *
        generalize xs.getD (k + 1) 0 = z at *
        go_wp2
        go_round
        case rel => exact ⟨k + 1, by omega, by go_num, by rw [HS.out]⟩
        case measure => simp [intOf]; omega
      · obtain rfl : k = 8 := by omega
        go_wp2
        refine bodyPost_ret (results_tmp4 rfl _ _ _) rfl ?_
        exact ⟨rfl, _, rfl⟩
end Go.Proofs.Qxb6616034a
