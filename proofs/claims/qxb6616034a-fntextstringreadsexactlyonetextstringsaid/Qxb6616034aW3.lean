/-
  What one read of a text string answers ('txt'), and ZZtextString (7; 11, 12, 13 entered in place).
-/
import Derived.Test.Qxb6616034aW2
namespace Go.Proofs.Qxb6616034a
open Go.RowKit

/-- The head's length by its first byte (96 to 123). -/
def hlen (x : Int) : Nat := if x < 120 then 1 else if x = 120 then 2 else if x = 121 then 3 else if x = 122 then 5 else 9
/-- The declared length. -/
def narg (xs : List Int) : Int := if xs.getD 0 0 < 120 then xs.getD 0 0 - 96 else be ((xs.drop 1).take (hlen (xs.getD 0 0) - 1))
/-- The head does not stand there whole, or is none of a text string. -/
def BadHead (xs : List Int) : Prop := xs = [] ∨ xs.getD 0 0 < 96 ∨ 123 < xs.getD 0 0 ∨ xs.length < hlen (xs.getD 0 0)

theorem hlen_pos (x : Int) : 1 ≤ hlen x ∧ hlen x ≤ 9 := by unfold hlen; split <;> (try split) <;> (try split) <;> (try split) <;> omega
theorem hlen_hsz (x : Int) (h0 : 120 ≤ x) (h1 : x ≤ 123) : hlen x = hsz (x % 32) := by
  rcases (show x = 120 ∨ x = 121 ∨ x = 122 ∨ x = 123 from by omega) with rfl | rfl | rfl | rfl <;> rfl
theorem be_lt8 (l : List Int) (h : ∀ z ∈ l, 0 ≤ z ∧ z < 256) (hl : l.length ≤ 8) : 0 ≤ be l ∧ be l < 18446744073709551616 := by
  have h1 := be_range l h
  refine ⟨h1.1, Int.lt_of_lt_of_le h1.2 ?_⟩
  have h2 : 256 ^ l.length ≤ 18446744073709551616 := Nat.le_trans (Nat.pow_le_pow_right (by decide) hl) (by decide)
  have h3 := Int.ofNat_le.2 h2
  rw [Int.natCast_pow] at h3
  exact h3
theorem narg_range (xs : List Int) (hr : ∀ z ∈ xs, 0 ≤ z ∧ z < 256) (h : 96 ≤ xs.getD 0 0) : 0 ≤ narg xs ∧ narg xs < 18446744073709551616 := by
  unfold narg
  split
  · omega
  · have := hlen_pos (xs.getD 0 0)
    exact be_lt8 _ (tail_range hr _) (by rw [List.length_take]; omega)

theorem head_bad (ao : Option Addr) (c : Nat) (xs : List Int) (w : World) (hv : View w (.slice ao xs.length c) xs) (hb : BadHead xs) :
    Calls Try.prog 14 #[.slice ao xs.length c] w fun e w' => ∃ m i a k : Int, e = .returned (.tuple #[.int .u8 m, .int .u8 i, .int .u64 a, .int .i64 k]) ∧ (k = 0 ∨ ¬ m = 3 ∨ 27 < i) ∧ ∃ q, w' = w.drewN q := by
  obtain ⟨hr, ao', c', he, hc1, hc2, hg⟩ := hv
  simp only [Value.slice.injEq, true_and] at he
  obtain ⟨rfl, rfl⟩ := he
  by_cases h0 : xs = []
  · subst h0
    refine (head_empty ao c w).mono ?_
    rintro e w' ⟨rfl, q, rfl⟩
    exact ⟨0, 0, 0, 0, rfl, .inl rfl, q, rfl⟩
  · have hpos : 0 < xs.length := List.length_pos_iff.2 h0
    rcases hg with ⟨_, rfl⟩ | ⟨g, o, rfl, hgl, hcell⟩
    · omega
    · have hx := getD_range hr 0
      have hc0 := hcell 0 hpos
      rw [Nat.add_zero] at hc0
      by_cases hA : xs.getD 0 0 % 32 < 24
      · refine (head_small g o _ c _ w hpos (by omega) hx.1 hx.2 hc0 hA).mono ?_
        rintro e w' ⟨rfl, q, rfl⟩
        refine ⟨_, _, _, _, rfl, ?_, q, rfl⟩
        rcases hb with h | h | h | h
        · exact absurd h h0
        · omega
        · omega
        · by_cases hs : xs.getD 0 0 < 120
          · have : hlen (xs.getD 0 0) = 1 := by unfold hlen; rw [if_pos hs]
            omega
          · omega
      · by_cases hB : 27 < xs.getD 0 0 % 32
        · refine (head_res g o _ c _ w hpos (by omega) hx.1 hx.2 hc0 hB).mono ?_
          rintro e w' ⟨rfl, q, rfl⟩
          exact ⟨_, _, _, _, rfl, .inr (.inr hB), q, rfl⟩
        · by_cases hC : xs.length < hsz (xs.getD 0 0 % 32)
          · refine (head_short g o _ c _ w hpos (by omega) hx.1 hx.2 hc0 (by omega) (by omega) hC).mono ?_
            rintro e w' ⟨rfl, q, rfl⟩
            exact ⟨0, 0, 0, 0, rfl, .inl rfl, q, rfl⟩
          · refine (head_long g o _ c xs _ w rfl hr hc2 hc1 rfl hx.1 hx.2 hcell (by omega) (by omega) (by omega)).mono ?_
            rintro e w' ⟨rfl, q, rfl⟩
            refine ⟨_, _, _, _, rfl, ?_, q, rfl⟩
            rcases hb with h | h | h | h
            · exact absurd h h0
            · omega
            · omega
            · right; left
              intro h3
              rw [hlen_hsz _ (by omega) (by omega)] at h
              exact hC h

theorem head_ok (g o c : Nat) (xs : List Int) (w : World) (hr : ∀ z ∈ xs, 0 ≤ z ∧ z < 256) (hc1 : xs.length ≤ c) (hc2 : c ≤ 2097152) (hcell : ∀ i, i < xs.length → w.cell? ⟨g, o + i, none⟩ = some (.int .u8 (xs.getD i 0)))
    (hb : ¬ BadHead xs) :
    Calls Try.prog 14 #[.slice (some ⟨g, o, none⟩) xs.length c] w fun e w' => ∃ i : Int, e = .returned (.tuple #[.int .u8 3, .int .u8 i, .int .u64 (narg xs), .int .i64 (hlen (xs.getD 0 0))]) ∧ i ≤ 27 ∧ ∃ q, w' = w.drewN q := by
  have h0 : ¬ xs = [] := fun h => hb (.inl h)
  have h1 : ¬ xs.getD 0 0 < 96 := fun h => hb (.inr (.inl h))
  have h2 : ¬ 123 < xs.getD 0 0 := fun h => hb (.inr (.inr (.inl h)))
  have h3 : ¬ xs.length < hlen (xs.getD 0 0) := fun h => hb (.inr (.inr (.inr h)))
  have hpos : 0 < xs.length := List.length_pos_iff.2 h0
  have hc0 := hcell 0 hpos
  rw [Nat.add_zero] at hc0
  by_cases hs : xs.getD 0 0 < 120
  · refine (head_small g o _ c _ w hpos (by omega) (by omega) (by omega) hc0 (by omega)).mono ?_
    rintro e w' ⟨rfl, q, rfl⟩
    refine ⟨_, ret4 (by omega) rfl ?_ ?_, by omega, q, rfl⟩
    · unfold narg; rw [if_pos hs]; omega
    · unfold hlen; rw [if_pos hs]; rfl
  · refine (head_long g o _ c xs _ w rfl hr hc2 hc1 rfl (by omega) (by omega) hcell (by omega) (by omega) (by rw [← hlen_hsz _ (by omega) (by omega)]; omega)).mono ?_
    rintro e w' ⟨rfl, q, rfl⟩
    refine ⟨_, ret4 (by omega) rfl ?_ ?_, by omega, q, rfl⟩
    · unfold narg; rw [if_neg hs, ← hlen_hsz _ (by omega) (by omega)]
    · rw [← hlen_hsz _ (by omega) (by omega)]

theorem View.below {w w' : World} {v : Value} {xs : List Int} (h : View w v xs) (hb : Below w.heap.size w w') : View w' v xs := by
  obtain ⟨hr, ao, c, he, h1, h2, hg⟩ := h
  refine ⟨hr, ao, c, he, h1, h2, ?_⟩
  rcases hg with h | ⟨g, o, rfl, hg, hc⟩
  · exact .inl h
  · exact .inr ⟨g, o, rfl, Nat.lt_of_lt_of_le hg hb.size, fun i hi => by rw [hb.cell (p := ⟨g, o + i, none⟩) hg]; exact hc i hi⟩
theorem View.alloc {w : World} {v : Value} {xs : List Int} (h : View w v xs) (o : Obj) : View (w.alloc o) v xs := h.below ((Below.refl _ _).alloc (Nat.le_refl _) o)

/-- What an open slice shows. -/
theorem View.open {w : World} {ao : Option Addr} {n c : Nat} {xs : List Int} (h : View w (.slice ao n c) xs) :
    (∀ z ∈ xs, 0 ≤ z ∧ z < 256) ∧ n = xs.length ∧ xs.length ≤ c ∧ c ≤ 2097152 ∧ (0 < xs.length → ∃ g o, ao = some ⟨g, o, none⟩ ∧ g < w.heap.size ∧ ∀ i, i < xs.length → w.cell? ⟨g, o + i, none⟩ = some (.int .u8 (xs.getD i 0))) := by
  obtain ⟨hr, ao', c', he, h1, h2, hg⟩ := h
  simp only [Value.slice.injEq] at he
  obtain ⟨rfl, rfl, rfl⟩ := he
  refine ⟨hr, rfl, h1, h2, fun hp => ?_⟩
  rcases hg with ⟨_, rfl⟩ | hg
  · omega
  · exact hg

theorem head_any (ao : Option Addr) (c : Nat) (xs : List Int) (w : World) (hv : View w (.slice ao xs.length c) xs) :
    Calls Try.prog 14 #[.slice ao xs.length c] w fun e w' => ∃ m i a k : Int, e = .returned (.tuple #[.int .u8 m, .int .u8 i, .int .u64 a, .int .i64 k]) ∧ ∃ q, w' = w.drewN q := by
  by_cases hb : BadHead xs
  · refine (head_bad ao c xs w hv hb).mono ?_
    rintro e w' ⟨m, i, a, k, rfl, _, q, rfl⟩
    exact ⟨m, i, a, k, rfl, q, rfl⟩
  · obtain ⟨hr, _, h1, h2, hg⟩ := hv.open
    have h0 : ¬ xs = [] := fun h => hb (.inl h)
    obtain ⟨g, o, rfl, hgl, hcell⟩ := hg (List.length_pos_iff.2 h0)
    refine (head_ok g o c xs w hr h1 h2 hcell hb).mono ?_
    rintro e w' ⟨i, rfl, _, q, rfl⟩
    exact ⟨_, _, _, _, rfl, q, rfl⟩

set_option maxRecDepth 100000 in
set_option maxHeartbeats 1000000 in
theorem zz_bad (ao : Option Addr) (c : Nat) (xs : List Int) (w : World) (hv : View w (.slice ao xs.length c) xs) (hb : BadHead xs) :
    Calls Try.prog 7 #[.slice ao xs.length c, .bool false] w fun e w' => e = .returned (.tuple #[.slice none 0 0, .slice ao xs.length c, .bool true]) ∧ Below w.heap.size w w' := by
  have hv' : ∀ o, View (w.alloc o) (.slice ao xs.length c) xs := fun o => hv.alloc o
  go_enter Try.func7, Try.ntmps7
  go_wp2_with (first | (go_at_call 14; refine (head_bad ao c xs _ (hv' _) hb).mono ?_; rintro e w1 ⟨m, i, a, k, rfl, hk, q, rfl⟩) | go_in)
  all_goals
    go_quiet (fail)
    go_wp2
    go_ret3
    exact ⟨rfl, below_drewN (((below_drewN ((Below.refl _ _).alloc (Nat.le_refl _) _) _).setCell (Nat.le_refl _) _).setCell (Nat.le_refl _) _) _⟩

set_option maxRecDepth 100000 in
set_option maxHeartbeats 1000000 in
theorem zz_failed (ao : Option Addr) (c : Nat) (xs : List Int) (w : World) (hv : View w (.slice ao xs.length c) xs) :
    Calls Try.prog 7 #[.slice ao xs.length c, .bool true] w fun e w' => e = .returned (.tuple #[.slice none 0 0, .slice ao xs.length c, .bool true]) ∧ Below w.heap.size w w' := by
  have hv' : ∀ o, View (w.alloc o) (.slice ao xs.length c) xs := fun o => hv.alloc o
  go_enter Try.func7, Try.ntmps7
  go_wp2_with (first | (go_at_call 14; refine (head_any ao c xs _ (hv' _)).mono ?_; rintro e w1 ⟨m, i, a, k, rfl, q, rfl⟩) | go_in)
  go_quiet (fail)
  go_wp2
  go_ret3
  exact ⟨rfl, below_drewN (((below_drewN ((Below.refl _ _).alloc (Nat.le_refl _) _) _).setCell (Nat.le_refl _) _).setCell (Nat.le_refl _) _) _⟩

theorem view_nil {w : World} {g o : Nat} (hg : g < w.heap.size) : View w (.slice (some ⟨g, o, none⟩) 0 0) [] :=
  ⟨fun z hz => absurd hz (by simp), some ⟨g, o, none⟩, 0, rfl, Nat.le_refl _, Nat.zero_le _, Or.inr ⟨g, o, rfl, hg, fun i hi => absurd hi (Nat.not_lt_zero i)⟩⟩
theorem view_drop {w : World} {g o c H : Nat} {xs : List Int} (hr : ∀ z ∈ xs, 0 ≤ z ∧ z < 256) (hc1 : xs.length ≤ c) (hc2 : c ≤ 2097152) (hgl : g < w.heap.size) (hcell : ∀ i, i < xs.length → w.cell? ⟨g, o + i, none⟩ = some (.int .u8 (xs.getD i 0))) :
    View w (.slice (some ⟨g, o + H, none⟩) (xs.length - H) (c - H)) (xs.drop H) := by
  refine ⟨fun z hz => hr z (List.mem_of_mem_drop hz), _, _, by rw [List.length_drop], by rw [List.length_drop]; omega, by omega, .inr ⟨g, o + H, rfl, hgl, fun i hi => ?_⟩⟩
  rw [List.length_drop] at hi
  have := hcell (H + i) (by omega)
  rw [Nat.add_assoc, this]
  simp [List.getD, List.getElem?_drop]
theorem view_take {w : World} {g o c k : Nat} {xs : List Int} (hr : ∀ z ∈ xs, 0 ≤ z ∧ z < 256) (hk : k ≤ xs.length) (hkc : k ≤ c) (hc2 : c ≤ 2097152) (hgl : g < w.heap.size) (hcell : ∀ i, i < xs.length → w.cell? ⟨g, o + i, none⟩ = some (.int .u8 (xs.getD i 0))) :
    View w (.slice (some ⟨g, o, none⟩) k c) (xs.take k) := by
  have hl : (xs.take k).length = k := by rw [List.length_take]; omega
  refine ⟨fun z hz => hr z (List.mem_of_mem_take hz), _, _, by rw [hl], by rw [hl]; exact hkc, hc2, .inr ⟨g, o, rfl, hgl, fun i hi => ?_⟩⟩
  rw [hl] at hi
  rw [hcell i (by omega)]
  simp [List.getD, hi]

theorem view_mid {w : World} {g o c H k : Nat} {xs : List Int} (hr : ∀ z ∈ xs, 0 ≤ z ∧ z < 256) (hc1 : xs.length ≤ c) (hc2 : c ≤ 2097152) (hgl : g < w.heap.size) (hcell : ∀ i, i < xs.length → w.cell? ⟨g, o + i, none⟩ = some (.int .u8 (xs.getD i 0)))
    (hk : k ≤ xs.length - H) : View w (.slice (some ⟨g, o + H, none⟩) k k) ((xs.drop H).take k) := by
  refine view_take (xs := xs.drop H) (fun z hz => hr z (List.mem_of_mem_drop hz)) (by rw [List.length_drop]; exact hk) (Nat.le_refl _) (by omega) hgl (fun i hi => ?_)
  rw [List.length_drop] at hi
  have := hcell (H + i) (by omega)
  rw [Nat.add_assoc, this]
  simp [List.getD, List.getElem?_drop]

theorem head_at (g o c : Nat) (xs : List Int) (H : Nat) (N : Int) (w : World) (hr : ∀ z ∈ xs, 0 ≤ z ∧ z < 256) (hc1 : xs.length ≤ c) (hc2 : c ≤ 2097152) (hcell : ∀ i, i < xs.length → w.cell? ⟨g, o + i, none⟩ = some (.int .u8 (xs.getD i 0)))
    (hb : ¬ BadHead xs) (hH : H = hlen (xs.getD 0 0)) (hN : N = narg xs) :
    Calls Try.prog 14 #[.slice (some ⟨g, o, none⟩) xs.length c] w fun e w' => ∃ i : Int, e = .returned (.tuple #[.int .u8 3, .int .u8 i, .int .u64 N, .int .i64 H]) ∧ i ≤ 27 ∧ ∃ q, w' = w.drewN q := by
  subst hH hN; exact head_ok g o c xs w hr hc1 hc2 hcell hb

set_option maxRecDepth 100000 in
set_option maxHeartbeats 1000000 in
theorem zz_over (g o c : Nat) (xs : List Int) (H : Nat) (N : Int) (w : World) (hr : ∀ z ∈ xs, 0 ≤ z ∧ z < 256) (hc1 : xs.length ≤ c) (hc2 : c ≤ 2097152) (hgl : g < w.heap.size) (hcell : ∀ i, i < xs.length → w.cell? ⟨g, o + i, none⟩ = some (.int .u8 (xs.getD i 0)))
    (hb : ¬ BadHead xs) (hH : H = hlen (xs.getD 0 0)) (hN : N = narg xs) (h3 : H ≤ xs.length) (hov : (xs.length : Int) - H < N) (hn : 0 ≤ N ∧ N < 18446744073709551616) (hl : 1 ≤ H ∧ H ≤ 9) :
    Calls Try.prog 7 #[.slice (some ⟨g, o, none⟩) xs.length c, .bool false] w fun e w' => ∃ r, e = .returned (.tuple #[.slice none 0 0, r, .bool true]) ∧ View w r (xs.drop H) ∧ Below w.heap.size w w' := by
  have hcell' : ∀ ob i, i < xs.length → (w.alloc ob).cell? ⟨g, o + i, none⟩ = some (.int .u8 (xs.getD i 0)) := fun ob i hi => by rw [World.cell?_alloc_lt _ _ _ hgl]; exact hcell i hi
  have HH : Hid (H = hlen (xs.getD 0 0)) := hH
  have HN : Hid (N = narg xs) := hN
  have HC : Hid (∀ ob i, i < xs.length → (w.alloc ob).cell? ⟨g, o + i, none⟩ = some (.int .u8 (xs.getD i 0))) := hcell'
  clear hH hN hcell'
  have hHb : ((H : Int) == 0) = false := beq_eq_false_iff_ne.2 (by omega)
  by_cases hch : c = H
  · subst hch
    go_enter Try.func7, Try.ntmps7
    go_wp2_with (first | (go_at_call 14; refine (head_at g o c xs c N _ hr hc1 hc2 (HC.out _) hb HH.out HN.out).mono ?_; rintro e w1 ⟨i, rfl, hi, q, rfl⟩) | go_in)
    go_quiet (fail)
    go_wp2
    go_ret3
    exact ⟨.slice (some ⟨g, o, none⟩) 0 0, rfl, by rw [List.drop_eq_nil_of_le (by omega)]; exact view_nil hgl, below_drewN (((below_drewN ((Below.refl _ _).alloc (Nat.le_refl _) _) _).setCell (Nat.le_refl _) _).setCell (Nat.le_refl _) _) _⟩
  · go_enter Try.func7, Try.ntmps7
    go_wp2_with (first | (go_at_call 14; refine (head_at g o c xs H N _ hr hc1 hc2 (HC.out _) hb HH.out HN.out).mono ?_; rintro e w1 ⟨i, rfl, hi, q, rfl⟩) | go_in)
    go_quiet (fail)
    go_wp2
    go_ret3
    exact ⟨.slice (some ⟨g, o + H, none⟩) (xs.length - H) (c - H), rfl, view_drop hr hc1 hc2 hgl hcell, below_drewN (((below_drewN ((Below.refl _ _).alloc (Nat.le_refl _) _) _).setCell (Nat.le_refl _) _).setCell (Nat.le_refl _) _) _⟩

set_option maxRecDepth 100000 in
set_option maxHeartbeats 1000000 in
theorem zz_good (g o c : Nat) (xs : List Int) (H k : Nat) (w : World) (hr : ∀ z ∈ xs, 0 ≤ z ∧ z < 256) (hc1 : xs.length ≤ c) (hc2 : c ≤ 2097152) (hgl : g < w.heap.size) (hcell : ∀ i, i < xs.length → w.cell? ⟨g, o + i, none⟩ = some (.int .u8 (xs.getD i 0)))
    (hb : ¬ BadHead xs) (hH : H = hlen (xs.getD 0 0)) (hN : (k : Int) = narg xs) (h3 : H ≤ xs.length) (hov : k ≤ xs.length - H) (hl : 1 ≤ H ∧ H ≤ 9) :
    Calls Try.prog 7 #[.slice (some ⟨g, o, none⟩) xs.length c, .bool false] w fun e w' => ∃ s r, e = .returned (.tuple #[s, r, .bool false]) ∧ View w s ((xs.drop H).take k) ∧ View w r (xs.drop (H + k)) ∧ Below w.heap.size w w' := by
  have hcell' : ∀ ob i, i < xs.length → (w.alloc ob).cell? ⟨g, o + i, none⟩ = some (.int .u8 (xs.getD i 0)) := fun ob i hi => by rw [World.cell?_alloc_lt _ _ _ hgl]; exact hcell i hi
  have HH : Hid (H = hlen (xs.getD 0 0)) := hH
  have HN : Hid ((k : Int) = narg xs) := hN
  have HC : Hid (∀ ob i, i < xs.length → (w.alloc ob).cell? ⟨g, o + i, none⟩ = some (.int .u8 (xs.getD i 0))) := hcell'
  clear hH hN hcell'
  have hHb : ((H : Int) == 0) = false := beq_eq_false_iff_ne.2 (by omega)
  by_cases hch : c = H
  · subst hch
    obtain rfl : k = 0 := by omega
    go_enter Try.func7, Try.ntmps7
    go_wp2_with (first | (go_at_call 14; refine (head_at g o c xs c _ _ hr hc1 hc2 (HC.out _) hb HH.out HN.out).mono ?_; rintro e w1 ⟨i, rfl, hi, q, rfl⟩) | go_in)
    go_quiet (fail)
    go_wp2
    go_ret3
    exact ⟨.slice (some ⟨g, o, none⟩) 0 0, .slice (some ⟨g, o, none⟩) 0 0, rfl, by rw [List.take_zero]; exact view_nil hgl, by rw [List.drop_eq_nil_of_le (by omega)]; exact view_nil hgl, below_drewN (((below_drewN ((Below.refl _ _).alloc (Nat.le_refl _) _) _).setCell (Nat.le_refl _) _).setCell (Nat.le_refl _) _) _⟩
  · by_cases hck : c - H = k
    · go_enter Try.func7, Try.ntmps7
      go_wp2_with (first | (go_at_call 14; refine (head_at g o c xs H k _ hr hc1 hc2 (HC.out _) hb HH.out HN.out).mono ?_; rintro e w1 ⟨i, rfl, hi, q, rfl⟩) | go_in)
      go_quiet (fail)
      go_wp2
      go_ret3
      exact ⟨.slice (some ⟨g, o + H, none⟩) k k, .slice (some ⟨g, o + H, none⟩) (xs.length - H - k) 0, rfl, view_mid hr hc1 hc2 hgl hcell hov, by rw [List.drop_eq_nil_of_le (by omega), show xs.length - H - k = 0 by omega]; exact view_nil hgl, below_drewN (((below_drewN ((Below.refl _ _).alloc (Nat.le_refl _) _) _).setCell (Nat.le_refl _) _).setCell (Nat.le_refl _) _) _⟩
    · go_enter Try.func7, Try.ntmps7
      go_wp2_with (first | (go_at_call 14; refine (head_at g o c xs H k _ hr hc1 hc2 (HC.out _) hb HH.out HN.out).mono ?_; rintro e w1 ⟨i, rfl, hi, q, rfl⟩) | go_in)
      go_quiet (fail)
      go_wp2
      go_ret3
      exact ⟨.slice (some ⟨g, o + H, none⟩) k k, .slice (some ⟨g, o + H + k, none⟩) (xs.length - H - k) (c - H - k), rfl, view_mid hr hc1 hc2 hgl hcell hov, by rw [Nat.add_assoc, Nat.sub_sub, Nat.sub_sub]; exact view_drop hr hc1 hc2 hgl hcell, below_drewN (((below_drewN ((Below.refl _ _).alloc (Nat.le_refl _) _) _).setCell (Nat.le_refl _) _).setCell (Nat.le_refl _) _) _⟩
end Go.Proofs.Qxb6616034a
