/-
  ldgB1TextModel (8): the walk.
-/
import Derived.Test.Qxb6616034aW6
namespace Go.Proofs.Qxb6616034a
open Go.RowKit

/-- What the model answers, as 'Reads' says it. -/
def Says (xs : List Int) (failed : Bool) (w : World) (e : Ending) (w' : World) : Prop :=
  ∃ sa cs ra cr f t rest, e = .returned (.tuple #[.slice sa t.length cs, .slice ra rest.length cr, .bool (!f)]) ∧ Reads xs failed f t rest ∧ View w (.slice sa t.length cs) t ∧ View w (.slice ra rest.length cr) rest ∧ Below w.heap.size w w'

theorem be_step (xs : List Int) (k : Nat) (h : k + 1 < xs.length) : be ((xs.drop 1).take (k + 1)) = be ((xs.drop 1).take k) * 256 + xs.getD (k + 1) 0 := by
  rw [tail_take xs k h, be_snoc]
theorem be_none (xs : List Int) : be ((xs.drop 1).take 0) = 0 := rfl
theorem says_over {xs : List Int} {g o c H n' : Nat} {w w' : World} (hr : ∀ z ∈ xs, 0 ≤ z ∧ z < 256) (hc1 : xs.length ≤ c) (hc2 : c ≤ 2097152) (hgl : g < w.heap.size) (hcell : ∀ i, i < xs.length → w.cell? ⟨g, o + i, none⟩ = some (.int .u8 (xs.getD i 0)))
    (hb : ¬ BadHead xs) (hH : hlen (xs.getD 0 0) = H) (hov : (xs.length : Int) - H < narg xs) (ao : Option Addr) (c' : Nat) (hA : (ao = some ⟨g, o, none⟩ ∧ xs.length ≤ H ∧ c' = 0) ∨ (ao = some ⟨g, o + H, none⟩ ∧ c' = c - H)) (hn' : n' = xs.length - H) (bel : Below w.heap.size w w') :
    Says xs false w (.returned (.tuple #[.slice none 0 0, .slice ao n' c', .bool false])) w' := by
  subst hn'
  have hl : (xs.drop H).length = xs.length - H := List.length_drop
  refine ⟨none, 0, ao, c', true, [], xs.drop H, by rw [hl]; rfl, .inr (.inr (.inl ⟨rfl, hb, by rw [hH]; exact hov, rfl, rfl, by rw [hH]⟩)), view_none _, ?_, bel⟩
  rcases hA with ⟨rfl, hle, rfl⟩ | ⟨rfl, rfl⟩
  · rw [List.drop_eq_nil_of_le hle]; exact view_nil hgl
  · rw [hl]; exact view_drop hr hc1 hc2 hgl hcell
theorem says_good {xs : List Int} {g o c H k n1 n2 : Nat} {w w' : World} (hr : ∀ z ∈ xs, 0 ≤ z ∧ z < 256) (hc1 : xs.length ≤ c) (hc2 : c ≤ 2097152) (hgl : g < w.heap.size) (hcell : ∀ i, i < xs.length → w.cell? ⟨g, o + i, none⟩ = some (.int .u8 (xs.getD i 0)))
    (hb : ¬ BadHead xs) (hH : hlen (xs.getD 0 0) = H) (hN : (k : Int) = narg xs) (hk : k ≤ xs.length - H) (a1 : Option Addr) (c1 : Nat) (a2 : Option Addr) (c2 : Nat)
    (hA : (a1 = some ⟨g, o, none⟩ ∧ k ≤ 0 ∧ c1 ≤ 2097152) ∨ (a1 = some ⟨g, o + H, none⟩ ∧ k ≤ c1 ∧ c1 ≤ 2097152))
    (hB : (a2 = some ⟨g, o, none⟩ ∧ xs.length ≤ H + k ∧ c2 ≤ 2097152) ∨ (a2 = some ⟨g, o + (H + k), none⟩ ∧ c2 = c - (H + k))) (hn1 : n1 = k) (hn2 : n2 = xs.length - (H + k)) (bel : Below w.heap.size w w') :
    Says xs false w (.returned (.tuple #[.slice a1 n1 c1, .slice a2 n2 c2, .bool true])) w' := by
  subst hn1 hn2
  have hl1 : ((xs.drop H).take n1).length = n1 := by rw [List.length_take, List.length_drop]; omega
  have hl2 : (xs.drop (H + n1)).length = xs.length - (H + n1) := List.length_drop
  refine ⟨a1, c1, a2, c2, false, (xs.drop H).take n1, xs.drop (H + n1), by rw [hl1, hl2]; rfl, .inr (.inr (.inr ⟨rfl, hb, n1, hN, by rw [hH]; exact hk, rfl, by rw [hH], by rw [hH]⟩)), ?_, ?_, bel⟩
  · rcases hA with ⟨rfl, hle, hcc⟩ | ⟨rfl, hle, hcc⟩
    · exact view_empty (by rw [hl1]; exact hle) hgl hcc
    · exact view_part H hr hgl hcell (by rw [hl1]) (by rw [hl1]; exact hle) hcc
  · rcases hB with ⟨rfl, hle, hcc⟩ | ⟨rfl, rfl⟩
    · exact view_empty (by rw [hl2]; omega) hgl hcc
    · rw [hl2]; exact view_drop hr hc1 hc2 hgl hcell

set_option maxRecDepth 100000 in
set_option maxHeartbeats 8000000 in
theorem model1 (g o c : Nat) (xs : List Int) (w : World) (hr : ∀ z ∈ xs, 0 ≤ z ∧ z < 256) (hc1 : xs.length ≤ c) (hc2 : c ≤ 2097152) (hgl : g < w.heap.size) (hcell : ∀ i, i < xs.length → w.cell? ⟨g, o + i, none⟩ = some (.int .u8 (xs.getD i 0)))
    (hb : ¬ BadHead xs) (hx : xs.getD 0 0 < 120) :
    Calls Try.prog 8 #[.slice (some ⟨g, o, none⟩) xs.length c, .bool false] w (Says xs false w) := by
  obtain ⟨n0, n1, n2, n3⟩ := BadHead.not hb
  have hH : hlen (xs.getD 0 0) = 1 := by unfold hlen; rw [if_pos hx]
  rw [hH] at n3
  have HH : Hid (hlen (xs.getD 0 0) = 1) := hH
  have HC : Hid (∀ i, i < xs.length → w.cell? ⟨g, o + i, none⟩ = some (.int .u8 (xs.getD i 0))) := hcell
  have k0 := hcell 0 (by omega)
  rw [Nat.add_zero] at k0
  have hS : narg xs = xs.getD 0 0 - 96 := by unfold narg; rw [if_pos hx]
  generalize hX : xs.getD 0 0 = x at k0 hS n1 hx
  have HS : Hid (narg xs = x - 96) := hS
  clear hX hS hH hcell n2
  by_cases hov : (xs.length : Int) - 1 < x - 96
  · by_cases hch : c ≤ 1
    · obtain rfl : c = 1 := by omega
      go_enter Try.func8, Try.ntmps8
      go_wp2
      refine wp_loop_rounds 1 ?_
      iterate 1 (rw [rounds_succ]; go_wp2)
      go_quiet (fail)
      go_wp2
      go_ret3
      exact says_over (H := 1) hr hc1 hc2 hgl HC.out hb HH.out (by rw [HS.out]; omega) _ _ (.inl ⟨rfl, by omega, rfl⟩) (by omega) (below_drewN (Below.refl _ _) _)
    · have hcn : ¬ c = 1 := by omega
      go_enter Try.func8, Try.ntmps8
      go_wp2
      refine wp_loop_rounds 1 ?_
      iterate 1 (rw [rounds_succ]; go_wp2)
      go_quiet (fail)
      go_wp2
      go_ret3
      exact says_over (H := 1) hr hc1 hc2 hgl HC.out hb HH.out (by rw [HS.out]; omega) _ _ (.inr ⟨rfl, rfl⟩) rfl (below_drewN (Below.refl _ _) _)
  · obtain ⟨k, hk⟩ := Int.eq_ofNat_of_zero_le (show 0 ≤ x - 96 by omega)
    have HK : Hid ((k : Int) = narg xs) := by show _ = _; rw [HS.out, hk]
    obtain rfl : x = (k : Int) + 96 := by omega
    clear hk
    have hkl : k ≤ xs.length - 1 := by omega
    by_cases hch : c ≤ 1
    · obtain rfl : c = 1 := by omega
      have hk0 : k ≤ 0 := by omega
      go_enter Try.func8, Try.ntmps8
      go_wp2
      refine wp_loop_rounds 1 ?_
      iterate 1 (rw [rounds_succ]; go_wp2)
      go_quiet (fail)
      go_wp2
      go_ret3
      exact says_good (H := 1) (k := k) hr hc1 hc2 hgl HC.out hb HH.out HK.out (by omega) _ _ _ _ (.inl ⟨rfl, by omega, by omega⟩) (.inl ⟨rfl, by omega, by omega⟩) (by omega) (by omega) (below_drewN (Below.refl _ _) _)
    · have hcn : ¬ c = 1 := by omega
      by_cases hck : c ≤ 1 + k
      · obtain rfl : c = 1 + k := by omega
        go_enter Try.func8, Try.ntmps8
        go_wp2
        refine wp_loop_rounds 1 ?_
        iterate 1 (rw [rounds_succ]; go_wp2)
        go_quiet (fail)
        go_wp2
        go_ret3
        exact says_good (H := 1) (k := k) hr hc1 hc2 hgl HC.out hb HH.out HK.out (by omega) _ _ _ _ (.inr ⟨rfl, by omega, by omega⟩) (.inl ⟨rfl, by omega, by omega⟩) (by omega) (by omega) (below_drewN (Below.refl _ _) _)
      · have hcm : ¬ c = 1 + k := by omega
        go_enter Try.func8, Try.ntmps8
        go_wp2
        refine wp_loop_rounds 1 ?_
        iterate 1 (rw [rounds_succ]; go_wp2)
        go_quiet (fail)
        go_wp2
        go_ret3
        exact says_good (H := 1) (k := k) hr hc1 hc2 hgl HC.out hb HH.out HK.out (by omega) _ _ _ _ (.inr ⟨rfl, by omega, by omega⟩) (.inr ⟨rfl, rfl⟩) (by omega) (by omega) (below_drewN (Below.refl _ _) _)

set_option maxRecDepth 100000 in
set_option maxHeartbeats 8000000 in
theorem model2 (g o c : Nat) (xs : List Int) (w : World) (hr : ∀ z ∈ xs, 0 ≤ z ∧ z < 256) (hc1 : xs.length ≤ c) (hc2 : c ≤ 2097152) (hgl : g < w.heap.size) (hcell : ∀ i, i < xs.length → w.cell? ⟨g, o + i, none⟩ = some (.int .u8 (xs.getD i 0)))
    (hb : ¬ BadHead xs) (hx : xs.getD 0 0 = 120) :
    Calls Try.prog 8 #[.slice (some ⟨g, o, none⟩) xs.length c, .bool false] w (Says xs false w) := by
  obtain ⟨n0, n1, n2, n3⟩ := BadHead.not hb
  have hH : hlen (xs.getD 0 0) = 2 := by unfold hlen; simp only [hx]; decide
  rw [hH] at n3
  have HH : Hid (hlen (xs.getD 0 0) = 2) := hH
  have HC : Hid (∀ i, i < xs.length → w.cell? ⟨g, o + i, none⟩ = some (.int .u8 (xs.getD i 0))) := hcell
  have k0 := hcell 0 (by omega)
  rw [Nat.add_zero] at k0
  have k1 := hcell 1 (by omega)
  have b1 := getD_range hr 1
  have s1 := be_step xs 0 (by omega)
  have s0 := be_none xs
  have hN : narg xs = be ((xs.drop 1).take 1) := by unfold narg; rw [if_neg (by omega), hH]
  have hS : narg xs = xs.getD 1 0 := by simp only [Nat.zero_add] at *; omega
  rw [hx] at k0
  generalize xs.getD 1 0 = z1 at k1 b1 hS
  obtain ⟨N, hNN⟩ : ∃ N, narg xs = N := ⟨_, rfl⟩
  rw [hNN] at hS
  have HS : Hid (narg xs = N) := hNN
  have hS' : z1 = N := hS.symm
  have hN0 : 0 ≤ N := by omega
  have hN1 : N < 18446744073709551616 := by omega
  clear hS hNN hN hH hcell hx n1 n2 s0 s1
  by_cases hov : (xs.length : Int) - 2 < N
  · by_cases hch : c ≤ 2
    · obtain rfl : c = 2 := by omega
      go_enter Try.func8, Try.ntmps8
      go_wp2
      refine wp_loop_rounds 2 ?_
      iterate 2 (rw [rounds_succ]; go_wp2)
      go_quiet (fail)
      go_wp2
      go_ret3
      exact says_over (H := 2) hr hc1 hc2 hgl HC.out hb HH.out (by rw [HS.out]; omega) _ _ (.inl ⟨rfl, by omega, rfl⟩) (by omega) (below_drewN (Below.refl _ _) _)
    · have hcn : ¬ c = 2 := by omega
      go_enter Try.func8, Try.ntmps8
      go_wp2
      refine wp_loop_rounds 2 ?_
      iterate 2 (rw [rounds_succ]; go_wp2)
      go_quiet (fail)
      go_wp2
      go_ret3
      exact says_over (H := 2) hr hc1 hc2 hgl HC.out hb HH.out (by rw [HS.out]; omega) _ _ (.inr ⟨rfl, rfl⟩) rfl (below_drewN (Below.refl _ _) _)
  · obtain ⟨k, rfl⟩ := Int.eq_ofNat_of_zero_le hN0
    have HK : Hid ((k : Int) = narg xs) := HS.out.symm
    clear hN0 hN1
    have hkl : k ≤ xs.length - 2 := by omega
    by_cases hch : c ≤ 2
    · obtain rfl : c = 2 := by omega
      have hk0 : k ≤ 0 := by omega
      go_enter Try.func8, Try.ntmps8
      go_wp2
      refine wp_loop_rounds 2 ?_
      iterate 2 (rw [rounds_succ]; go_wp2)
      go_quiet (fail)
      go_wp2
      go_ret3
      exact says_good (H := 2) (k := k) hr hc1 hc2 hgl HC.out hb HH.out HK.out (by omega) _ _ _ _ (.inl ⟨rfl, by omega, by omega⟩) (.inl ⟨rfl, by omega, by omega⟩) (by omega) (by omega) (below_drewN (Below.refl _ _) _)
    · have hcn : ¬ c = 2 := by omega
      by_cases hck : c ≤ 2 + k
      · obtain rfl : c = 2 + k := by omega
        go_enter Try.func8, Try.ntmps8
        go_wp2
        refine wp_loop_rounds 2 ?_
        iterate 2 (rw [rounds_succ]; go_wp2)
        go_quiet (fail)
        go_wp2
        go_ret3
        exact says_good (H := 2) (k := k) hr hc1 hc2 hgl HC.out hb HH.out HK.out (by omega) _ _ _ _ (.inr ⟨rfl, by omega, by omega⟩) (.inl ⟨rfl, by omega, by omega⟩) (by omega) (by omega) (below_drewN (Below.refl _ _) _)
      · have hcm : ¬ c = 2 + k := by omega
        go_enter Try.func8, Try.ntmps8
        go_wp2
        refine wp_loop_rounds 2 ?_
        iterate 2 (rw [rounds_succ]; go_wp2)
        go_quiet (fail)
        go_wp2
        go_ret3
        exact says_good (H := 2) (k := k) hr hc1 hc2 hgl HC.out hb HH.out HK.out (by omega) _ _ _ _ (.inr ⟨rfl, by omega, by omega⟩) (.inr ⟨rfl, rfl⟩) (by omega) (by omega) (below_drewN (Below.refl _ _) _)

set_option maxRecDepth 100000 in
set_option maxHeartbeats 8000000 in
theorem model3 (g o c : Nat) (xs : List Int) (w : World) (hr : ∀ z ∈ xs, 0 ≤ z ∧ z < 256) (hc1 : xs.length ≤ c) (hc2 : c ≤ 2097152) (hgl : g < w.heap.size) (hcell : ∀ i, i < xs.length → w.cell? ⟨g, o + i, none⟩ = some (.int .u8 (xs.getD i 0)))
    (hb : ¬ BadHead xs) (hx : xs.getD 0 0 = 121) :
    Calls Try.prog 8 #[.slice (some ⟨g, o, none⟩) xs.length c, .bool false] w (Says xs false w) := by
  obtain ⟨n0, n1, n2, n3⟩ := BadHead.not hb
  have hH : hlen (xs.getD 0 0) = 3 := by unfold hlen; simp only [hx]; decide
  rw [hH] at n3
  have HH : Hid (hlen (xs.getD 0 0) = 3) := hH
  have HC : Hid (∀ i, i < xs.length → w.cell? ⟨g, o + i, none⟩ = some (.int .u8 (xs.getD i 0))) := hcell
  have k0 := hcell 0 (by omega)
  rw [Nat.add_zero] at k0
  have k1 := hcell 1 (by omega)
  have k2 := hcell 2 (by omega)
  have b1 := getD_range hr 1
  have b2 := getD_range hr 2
  have s1 := be_step xs 0 (by omega)
  have s2 := be_step xs 1 (by omega)
  have s0 := be_none xs
  have hN : narg xs = be ((xs.drop 1).take 2) := by unfold narg; rw [if_neg (by omega), hH]
  have hS : narg xs = xs.getD 2 0 + xs.getD 1 0 * 256 := by simp only [Nat.zero_add, Nat.reduceAdd] at *; omega
  rw [hx] at k0
  generalize xs.getD 1 0 = z1 at k1 b1 hS
  generalize xs.getD 2 0 = z2 at k2 b2 hS
  obtain ⟨N, hNN⟩ : ∃ N, narg xs = N := ⟨_, rfl⟩
  rw [hNN] at hS
  have HS : Hid (narg xs = N) := hNN
  have hS' : z2 + z1 * 256 = N := hS.symm
  have hN0 : 0 ≤ N := by omega
  have hN1 : N < 18446744073709551616 := by omega
  clear hS hNN hN hH hcell hx n1 n2 s0 s1 s2
  by_cases hov : (xs.length : Int) - 3 < N
  · by_cases hch : c ≤ 3
    · obtain rfl : c = 3 := by omega
      go_enter Try.func8, Try.ntmps8
      go_wp2
      refine wp_loop_rounds 3 ?_
      iterate 3 (rw [rounds_succ]; go_wp2)
      go_quiet (fail)
      go_wp2
      go_ret3
      exact says_over (H := 3) hr hc1 hc2 hgl HC.out hb HH.out (by rw [HS.out]; omega) _ _ (.inl ⟨rfl, by omega, rfl⟩) (by omega) (below_drewN (Below.refl _ _) _)
    · have hcn : ¬ c = 3 := by omega
      go_enter Try.func8, Try.ntmps8
      go_wp2
      refine wp_loop_rounds 3 ?_
      iterate 3 (rw [rounds_succ]; go_wp2)
      go_quiet (fail)
      go_wp2
      go_ret3
      exact says_over (H := 3) hr hc1 hc2 hgl HC.out hb HH.out (by rw [HS.out]; omega) _ _ (.inr ⟨rfl, rfl⟩) rfl (below_drewN (Below.refl _ _) _)
  · obtain ⟨k, rfl⟩ := Int.eq_ofNat_of_zero_le hN0
    have HK : Hid ((k : Int) = narg xs) := HS.out.symm
    clear hN0 hN1
    have hkl : k ≤ xs.length - 3 := by omega
    by_cases hch : c ≤ 3
    · obtain rfl : c = 3 := by omega
      have hk0 : k ≤ 0 := by omega
      go_enter Try.func8, Try.ntmps8
      go_wp2
      refine wp_loop_rounds 3 ?_
      iterate 3 (rw [rounds_succ]; go_wp2)
      go_quiet (fail)
      go_wp2
      go_ret3
      exact says_good (H := 3) (k := k) hr hc1 hc2 hgl HC.out hb HH.out HK.out (by omega) _ _ _ _ (.inl ⟨rfl, by omega, by omega⟩) (.inl ⟨rfl, by omega, by omega⟩) (by omega) (by omega) (below_drewN (Below.refl _ _) _)
    · have hcn : ¬ c = 3 := by omega
      by_cases hck : c ≤ 3 + k
      · obtain rfl : c = 3 + k := by omega
        go_enter Try.func8, Try.ntmps8
        go_wp2
        refine wp_loop_rounds 3 ?_
        iterate 3 (rw [rounds_succ]; go_wp2)
        go_quiet (fail)
        go_wp2
        go_ret3
        exact says_good (H := 3) (k := k) hr hc1 hc2 hgl HC.out hb HH.out HK.out (by omega) _ _ _ _ (.inr ⟨rfl, by omega, by omega⟩) (.inl ⟨rfl, by omega, by omega⟩) (by omega) (by omega) (below_drewN (Below.refl _ _) _)
      · have hcm : ¬ c = 3 + k := by omega
        go_enter Try.func8, Try.ntmps8
        go_wp2
        refine wp_loop_rounds 3 ?_
        iterate 3 (rw [rounds_succ]; go_wp2)
        go_quiet (fail)
        go_wp2
        go_ret3
        exact says_good (H := 3) (k := k) hr hc1 hc2 hgl HC.out hb HH.out HK.out (by omega) _ _ _ _ (.inr ⟨rfl, by omega, by omega⟩) (.inr ⟨rfl, rfl⟩) (by omega) (by omega) (below_drewN (Below.refl _ _) _)

set_option maxRecDepth 100000 in
set_option maxHeartbeats 8000000 in
theorem model5 (g o c : Nat) (xs : List Int) (w : World) (hr : ∀ z ∈ xs, 0 ≤ z ∧ z < 256) (hc1 : xs.length ≤ c) (hc2 : c ≤ 2097152) (hgl : g < w.heap.size) (hcell : ∀ i, i < xs.length → w.cell? ⟨g, o + i, none⟩ = some (.int .u8 (xs.getD i 0)))
    (hb : ¬ BadHead xs) (hx : xs.getD 0 0 = 122) :
    Calls Try.prog 8 #[.slice (some ⟨g, o, none⟩) xs.length c, .bool false] w (Says xs false w) := by
  obtain ⟨n0, n1, n2, n3⟩ := BadHead.not hb
  have hH : hlen (xs.getD 0 0) = 5 := by unfold hlen; simp only [hx]; decide
  rw [hH] at n3
  have HH : Hid (hlen (xs.getD 0 0) = 5) := hH
  have HC : Hid (∀ i, i < xs.length → w.cell? ⟨g, o + i, none⟩ = some (.int .u8 (xs.getD i 0))) := hcell
  have k0 := hcell 0 (by omega)
  rw [Nat.add_zero] at k0
  have k1 := hcell 1 (by omega)
  have k2 := hcell 2 (by omega)
  have k3 := hcell 3 (by omega)
  have k4 := hcell 4 (by omega)
  have b1 := getD_range hr 1
  have b2 := getD_range hr 2
  have b3 := getD_range hr 3
  have b4 := getD_range hr 4
  have s1 := be_step xs 0 (by omega)
  have s2 := be_step xs 1 (by omega)
  have s3 := be_step xs 2 (by omega)
  have s4 := be_step xs 3 (by omega)
  have s0 := be_none xs
  have hN : narg xs = be ((xs.drop 1).take 4) := by unfold narg; rw [if_neg (by omega), hH]
  have hS : narg xs = xs.getD 4 0 + xs.getD 3 0 * 256 + xs.getD 2 0 * 65536 + xs.getD 1 0 * 16777216 := by simp only [Nat.zero_add, Nat.reduceAdd] at *; omega
  rw [hx] at k0
  generalize xs.getD 1 0 = z1 at k1 b1 hS
  generalize xs.getD 2 0 = z2 at k2 b2 hS
  generalize xs.getD 3 0 = z3 at k3 b3 hS
  generalize xs.getD 4 0 = z4 at k4 b4 hS
  obtain ⟨N, hNN⟩ : ∃ N, narg xs = N := ⟨_, rfl⟩
  rw [hNN] at hS
  have HS : Hid (narg xs = N) := hNN
  have hS' : z4 + z3 * 256 + z2 * 65536 + z1 * 16777216 = N := hS.symm
  have hN0 : 0 ≤ N := by omega
  have hN1 : N < 18446744073709551616 := by omega
  clear hS hNN hN hH hcell hx n1 n2 s0 s1 s2 s3 s4
  by_cases hov : (xs.length : Int) - 5 < N
  · by_cases hch : c ≤ 5
    · obtain rfl : c = 5 := by omega
      go_enter Try.func8, Try.ntmps8
      go_wp2
      refine wp_loop_rounds 5 ?_
      iterate 5 (rw [rounds_succ]; go_wp2)
      go_quiet (fail)
      go_wp2
      go_ret3
      exact says_over (H := 5) hr hc1 hc2 hgl HC.out hb HH.out (by rw [HS.out]; omega) _ _ (.inl ⟨rfl, by omega, rfl⟩) (by omega) (below_drewN (Below.refl _ _) _)
    · have hcn : ¬ c = 5 := by omega
      go_enter Try.func8, Try.ntmps8
      go_wp2
      refine wp_loop_rounds 5 ?_
      iterate 5 (rw [rounds_succ]; go_wp2)
      go_quiet (fail)
      go_wp2
      go_ret3
      exact says_over (H := 5) hr hc1 hc2 hgl HC.out hb HH.out (by rw [HS.out]; omega) _ _ (.inr ⟨rfl, rfl⟩) rfl (below_drewN (Below.refl _ _) _)
  · obtain ⟨k, rfl⟩ := Int.eq_ofNat_of_zero_le hN0
    have HK : Hid ((k : Int) = narg xs) := HS.out.symm
    clear hN0 hN1
    have hkl : k ≤ xs.length - 5 := by omega
    by_cases hch : c ≤ 5
    · obtain rfl : c = 5 := by omega
      have hk0 : k ≤ 0 := by omega
      go_enter Try.func8, Try.ntmps8
      go_wp2
      refine wp_loop_rounds 5 ?_
      iterate 5 (rw [rounds_succ]; go_wp2)
      go_quiet (fail)
      go_wp2
      go_ret3
      exact says_good (H := 5) (k := k) hr hc1 hc2 hgl HC.out hb HH.out HK.out (by omega) _ _ _ _ (.inl ⟨rfl, by omega, by omega⟩) (.inl ⟨rfl, by omega, by omega⟩) (by omega) (by omega) (below_drewN (Below.refl _ _) _)
    · have hcn : ¬ c = 5 := by omega
      by_cases hck : c ≤ 5 + k
      · obtain rfl : c = 5 + k := by omega
        go_enter Try.func8, Try.ntmps8
        go_wp2
        refine wp_loop_rounds 5 ?_
        iterate 5 (rw [rounds_succ]; go_wp2)
        go_quiet (fail)
        go_wp2
        go_ret3
        exact says_good (H := 5) (k := k) hr hc1 hc2 hgl HC.out hb HH.out HK.out (by omega) _ _ _ _ (.inr ⟨rfl, by omega, by omega⟩) (.inl ⟨rfl, by omega, by omega⟩) (by omega) (by omega) (below_drewN (Below.refl _ _) _)
      · have hcm : ¬ c = 5 + k := by omega
        go_enter Try.func8, Try.ntmps8
        go_wp2
        refine wp_loop_rounds 5 ?_
        iterate 5 (rw [rounds_succ]; go_wp2)
        go_quiet (fail)
        go_wp2
        go_ret3
        exact says_good (H := 5) (k := k) hr hc1 hc2 hgl HC.out hb HH.out HK.out (by omega) _ _ _ _ (.inr ⟨rfl, by omega, by omega⟩) (.inr ⟨rfl, rfl⟩) (by omega) (by omega) (below_drewN (Below.refl _ _) _)

set_option maxRecDepth 100000 in
set_option maxHeartbeats 8000000 in
theorem model9 (g o c : Nat) (xs : List Int) (w : World) (hr : ∀ z ∈ xs, 0 ≤ z ∧ z < 256) (hc1 : xs.length ≤ c) (hc2 : c ≤ 2097152) (hgl : g < w.heap.size) (hcell : ∀ i, i < xs.length → w.cell? ⟨g, o + i, none⟩ = some (.int .u8 (xs.getD i 0)))
    (hb : ¬ BadHead xs) (hx : xs.getD 0 0 = 123) :
    Calls Try.prog 8 #[.slice (some ⟨g, o, none⟩) xs.length c, .bool false] w (Says xs false w) := by
  obtain ⟨n0, n1, n2, n3⟩ := BadHead.not hb
  have hH : hlen (xs.getD 0 0) = 9 := by unfold hlen; simp only [hx]; decide
  rw [hH] at n3
  have HH : Hid (hlen (xs.getD 0 0) = 9) := hH
  have HC : Hid (∀ i, i < xs.length → w.cell? ⟨g, o + i, none⟩ = some (.int .u8 (xs.getD i 0))) := hcell
  have k0 := hcell 0 (by omega)
  rw [Nat.add_zero] at k0
  have k1 := hcell 1 (by omega)
  have k2 := hcell 2 (by omega)
  have k3 := hcell 3 (by omega)
  have k4 := hcell 4 (by omega)
  have k5 := hcell 5 (by omega)
  have k6 := hcell 6 (by omega)
  have k7 := hcell 7 (by omega)
  have k8 := hcell 8 (by omega)
  have b1 := getD_range hr 1
  have b2 := getD_range hr 2
  have b3 := getD_range hr 3
  have b4 := getD_range hr 4
  have b5 := getD_range hr 5
  have b6 := getD_range hr 6
  have b7 := getD_range hr 7
  have b8 := getD_range hr 8
  have s1 := be_step xs 0 (by omega)
  have s2 := be_step xs 1 (by omega)
  have s3 := be_step xs 2 (by omega)
  have s4 := be_step xs 3 (by omega)
  have s5 := be_step xs 4 (by omega)
  have s6 := be_step xs 5 (by omega)
  have s7 := be_step xs 6 (by omega)
  have s8 := be_step xs 7 (by omega)
  have s0 := be_none xs
  have hN : narg xs = be ((xs.drop 1).take 8) := by unfold narg; rw [if_neg (by omega), hH]
  have hS : narg xs = xs.getD 8 0 + xs.getD 7 0 * 256 + xs.getD 6 0 * 65536 + xs.getD 5 0 * 16777216 + xs.getD 4 0 * 4294967296 + xs.getD 3 0 * 1099511627776 + xs.getD 2 0 * 281474976710656 + xs.getD 1 0 * 72057594037927936 := by simp only [Nat.zero_add, Nat.reduceAdd] at *; omega
  rw [hx] at k0
  generalize xs.getD 1 0 = z1 at k1 b1 hS
  generalize xs.getD 2 0 = z2 at k2 b2 hS
  generalize xs.getD 3 0 = z3 at k3 b3 hS
  generalize xs.getD 4 0 = z4 at k4 b4 hS
  generalize xs.getD 5 0 = z5 at k5 b5 hS
  generalize xs.getD 6 0 = z6 at k6 b6 hS
  generalize xs.getD 7 0 = z7 at k7 b7 hS
  generalize xs.getD 8 0 = z8 at k8 b8 hS
  obtain ⟨N, hNN⟩ : ∃ N, narg xs = N := ⟨_, rfl⟩
  rw [hNN] at hS
  have HS : Hid (narg xs = N) := hNN
  have hS' : z8 + z7 * 256 + z6 * 65536 + z5 * 16777216 + z4 * 4294967296 + z3 * 1099511627776 + z2 * 281474976710656 + z1 * 72057594037927936 = N := hS.symm
  have hN0 : 0 ≤ N := by omega
  have hN1 : N < 18446744073709551616 := by omega
  clear hS hNN hN hH hcell hx n1 n2 s0 s1 s2 s3 s4 s5 s6 s7 s8
  by_cases hov : (xs.length : Int) - 9 < N
  · by_cases hch : c ≤ 9
    · obtain rfl : c = 9 := by omega
      go_enter Try.func8, Try.ntmps8
      go_wp2
      refine wp_loop_rounds 9 ?_
      iterate 9 (rw [rounds_succ]; go_wp2)
      go_quiet (fail)
      go_wp2
      go_ret3
      exact says_over (H := 9) hr hc1 hc2 hgl HC.out hb HH.out (by rw [HS.out]; omega) _ _ (.inl ⟨rfl, by omega, rfl⟩) (by omega) (below_drewN (Below.refl _ _) _)
    · have hcn : ¬ c = 9 := by omega
      go_enter Try.func8, Try.ntmps8
      go_wp2
      refine wp_loop_rounds 9 ?_
      iterate 9 (rw [rounds_succ]; go_wp2)
      go_quiet (fail)
      go_wp2
      go_ret3
      exact says_over (H := 9) hr hc1 hc2 hgl HC.out hb HH.out (by rw [HS.out]; omega) _ _ (.inr ⟨rfl, rfl⟩) rfl (below_drewN (Below.refl _ _) _)
  · obtain ⟨k, rfl⟩ := Int.eq_ofNat_of_zero_le hN0
    have HK : Hid ((k : Int) = narg xs) := HS.out.symm
    clear hN0 hN1
    have hkl : k ≤ xs.length - 9 := by omega
    by_cases hch : c ≤ 9
    · obtain rfl : c = 9 := by omega
      have hk0 : k ≤ 0 := by omega
      go_enter Try.func8, Try.ntmps8
      go_wp2
      refine wp_loop_rounds 9 ?_
      iterate 9 (rw [rounds_succ]; go_wp2)
      go_quiet (fail)
      go_wp2
      go_ret3
      exact says_good (H := 9) (k := k) hr hc1 hc2 hgl HC.out hb HH.out HK.out (by omega) _ _ _ _ (.inl ⟨rfl, by omega, by omega⟩) (.inl ⟨rfl, by omega, by omega⟩) (by omega) (by omega) (below_drewN (Below.refl _ _) _)
    · have hcn : ¬ c = 9 := by omega
      by_cases hck : c ≤ 9 + k
      · obtain rfl : c = 9 + k := by omega
        go_enter Try.func8, Try.ntmps8
        go_wp2
        refine wp_loop_rounds 9 ?_
        iterate 9 (rw [rounds_succ]; go_wp2)
        go_quiet (fail)
        go_wp2
        go_ret3
        exact says_good (H := 9) (k := k) hr hc1 hc2 hgl HC.out hb HH.out HK.out (by omega) _ _ _ _ (.inr ⟨rfl, by omega, by omega⟩) (.inl ⟨rfl, by omega, by omega⟩) (by omega) (by omega) (below_drewN (Below.refl _ _) _)
      · have hcm : ¬ c = 9 + k := by omega
        go_enter Try.func8, Try.ntmps8
        go_wp2
        refine wp_loop_rounds 9 ?_
        iterate 9 (rw [rounds_succ]; go_wp2)
        go_quiet (fail)
        go_wp2
        go_ret3
        exact says_good (H := 9) (k := k) hr hc1 hc2 hgl HC.out hb HH.out HK.out (by omega) _ _ _ _ (.inr ⟨rfl, by omega, by omega⟩) (.inr ⟨rfl, rfl⟩) (by omega) (by omega) (below_drewN (Below.refl _ _) _)
end Go.Proofs.Qxb6616034a
