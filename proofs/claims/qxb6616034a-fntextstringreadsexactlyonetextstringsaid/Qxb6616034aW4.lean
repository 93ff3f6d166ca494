/-
  ZZtextString as one relation ('Reads'); ldgB1Eq (9); the bound (5).
-/
import Derived.Test.Qxb6616034aW3
namespace Go.Proofs.Qxb6616034a
open Go.RowKit

/-- What one read answers: f: it failed; t: the text; rest: what is left. -/
def Reads (xs : List Int) (failed f : Bool) (t rest : List Int) : Prop :=
  (failed = true ∧ f = true ∧ t = [] ∧ rest = xs) ∨
  (failed = false ∧ BadHead xs ∧ f = true ∧ t = [] ∧ rest = xs) ∨
  (failed = false ∧ ¬ BadHead xs ∧ (xs.length : Int) - (hlen (xs.getD 0 0) : Int) < narg xs ∧ f = true ∧ t = [] ∧ rest = xs.drop (hlen (xs.getD 0 0))) ∨
  (failed = false ∧ ¬ BadHead xs ∧ ∃ k : Nat, (k : Int) = narg xs ∧ k ≤ xs.length - hlen (xs.getD 0 0) ∧ f = false ∧ t = (xs.drop (hlen (xs.getD 0 0))).take k ∧ rest = xs.drop (hlen (xs.getD 0 0) + k))

theorem BadHead.not {xs : List Int} (hb : ¬ BadHead xs) : ¬ xs = [] ∧ 96 ≤ xs.getD 0 0 ∧ xs.getD 0 0 ≤ 123 ∧ hlen (xs.getD 0 0) ≤ xs.length :=
  ⟨fun h => hb (.inl h), Int.not_lt.1 fun h => hb (.inr (.inl h)), Int.not_lt.1 fun h => hb (.inr (.inr (.inl h))), Nat.not_lt.1 fun h => hb (.inr (.inr (.inr h)))⟩

theorem Reads.same {xs : List Int} {failed f f' : Bool} {t t' r r' : List Int} (h : Reads xs failed f t r) (h' : Reads xs failed f' t' r') : f = f' ∧ t = t' ∧ r = r' := by
  rcases h with ⟨a, rfl, rfl, rfl⟩ | ⟨a, b, rfl, rfl, rfl⟩ | ⟨a, b, c, rfl, rfl, rfl⟩ | ⟨a, b, k, c, d, rfl, rfl, rfl⟩ <;>
  rcases h' with ⟨a', rfl, rfl, rfl⟩ | ⟨a', b', rfl, rfl, rfl⟩ | ⟨a', b', c', rfl, rfl, rfl⟩ | ⟨a', b', k', c', d', rfl, rfl, rfl⟩ <;>
  first
    | exact ⟨rfl, rfl, rfl⟩
    | (rw [a] at a'; cases a'; done)
    | exact absurd b b'
    | exact absurd b' b
    | (exfalso; have := (BadHead.not b).2.2.2; omega)
    | (obtain rfl : k = k' := by omega
       exact ⟨rfl, rfl, rfl⟩)

theorem view_none (w : World) : View w (.slice none 0 0) [] :=
  ⟨fun z hz => absurd hz (by simp), none, 0, rfl, Nat.le_refl _, Nat.zero_le _, Or.inl ⟨rfl, rfl⟩⟩

theorem zz_any (v : Value) (xs : List Int) (failed : Bool) (w : World) (hv : View w v xs) :
    Calls Try.prog 7 #[v, .bool failed] w fun e w' => ∃ s r f t rest, e = .returned (.tuple #[s, r, .bool f]) ∧ Reads xs failed f t rest ∧ (f = true → s = .slice none 0 0) ∧ View w' s t ∧ View w' r rest ∧ Below w.heap.size w w' := by
  have hv0 := hv
  obtain ⟨_, ao, c, rfl, _⟩ := hv
  cases failed
  · by_cases hb : BadHead xs
    · refine (zz_bad ao c xs w hv0 hb).mono ?_
      rintro e w' ⟨rfl, bel⟩
      exact ⟨_, _, _, [], xs, rfl, .inr (.inl ⟨rfl, hb, rfl, rfl, rfl⟩), fun _ => rfl, view_none _, hv0.below bel, bel⟩
    · obtain ⟨hr, _, h1, h2, hg⟩ := hv0.open
      obtain ⟨n0, n1, n2, n3⟩ := BadHead.not hb
      obtain ⟨g, o, rfl, hgl, hcell⟩ := hg (List.length_pos_iff.2 n0)
      have hn := narg_range xs hr n1
      have hl := hlen_pos (xs.getD 0 0)
      by_cases hov : (xs.length : Int) - (hlen (xs.getD 0 0) : Int) < narg xs
      · refine (zz_over g o c xs _ _ w hr h1 h2 hgl hcell hb rfl rfl n3 hov hn hl).mono ?_
        rintro e w' ⟨r, rfl, hvr, bel⟩
        exact ⟨_, _, _, [], _, rfl, .inr (.inr (.inl ⟨rfl, hb, hov, rfl, rfl, rfl⟩)), fun _ => rfl, view_none _, hvr.below bel, bel⟩
      · obtain ⟨k, hk⟩ := Int.eq_ofNat_of_zero_le hn.1
        have hkl : k ≤ xs.length - hlen (xs.getD 0 0) := by omega
        refine (zz_good g o c xs _ k w hr h1 h2 hgl hcell hb rfl hk.symm n3 hkl hl).mono ?_
        rintro e w' ⟨s, r, rfl, hvs, hvr, bel⟩
        exact ⟨_, _, _, _, _, rfl, .inr (.inr (.inr ⟨rfl, hb, k, hk.symm, hkl, rfl, rfl, rfl⟩)), (by intro h; cases h), hvs.below bel, hvr.below bel, bel⟩
  · refine (zz_failed ao c xs w hv0).mono ?_
    rintro e w' ⟨rfl, bel⟩
    exact ⟨_, _, _, [], xs, rfl, .inl ⟨rfl, rfl, rfl, rfl⟩, fun _ => rfl, view_none _, hv0.below bel, bel⟩

set_option maxRecDepth 100000 in
set_option maxHeartbeats 1000000 in
theorem eq_same (v1 v2 : Value) (xs : List Int) (w : World) (hv1 : View w v1 xs) (hv2 : View w v2 xs) :
    Calls Try.prog 9 #[v1, v2] w fun e w' => e = .returned (.bool true) ∧ Below w.heap.size w w' := by
  have hv1' := hv1
  have hv2' := hv2
  obtain ⟨_, a1, c1, rfl, l1, m1, _⟩ := hv1'
  obtain ⟨_, a2, c2, rfl, l2, m2, _⟩ := hv2'
  obtain ⟨hr, _, _, _, hg1⟩ := hv1.open
  obtain ⟨_, _, _, _, hg2⟩ := hv2.open
  clear hv1 hv2
  go_enter Try.func9, Try.ntmps9
  go_wp2
  go_loopw [5] (fun i wr => ∃ k : Nat, k ≤ xs.length ∧ i = .int .i64 k ∧ Below w.heap.size w wr) (fun i _ => xs.length - (intOf i).toNat)
  case atStart => exact ⟨0, Nat.zero_le _, rfl, Below.refl _ _⟩
  case round =>
    obtain ⟨k, hk, rfl, hb⟩ := hrel
    by_cases hlt : k < xs.length
    · obtain ⟨g1, o1, rfl, hl1, hc1⟩ := hg1 (by omega)
      obtain ⟨g2, o2, rfl, hl2, hc2⟩ := hg2 (by omega)
      have e1 : wr.cell? ⟨g1, o1 + k, none⟩ = some (.int .u8 (xs.getD k 0)) := by rw [hb.cell (p := ⟨g1, o1 + k, none⟩) hl1]; exact hc1 k hlt
      have e2 : wr.cell? ⟨g2, o2 + k, none⟩ = some (.int .u8 (xs.getD k 0)) := by rw [hb.cell (p := ⟨g2, o2 + k, none⟩) hl2]; exact hc2 k hlt
      clear hc1 hc2
      go_wp2
      go_quiet (fail)
      go_wp2
      go_roundw
      case rel => exact ⟨k + 1, by omega, by go_num, below_drewN hb _⟩
      case measure => simp [intOf]; omega
    · go_wp2
      go_ret
      exact ⟨rfl, hb⟩

set_option maxHeartbeats 1000000 in
theorem bound5_any (a0 : Option Addr) (len0 cap0 : Nat) (b : Bool) (w : World) (hl : len0 ≤ maxLen) :
    Calls Try.prog 5 #[.slice a0 len0 cap0, .bool b] w fun e w' => e = .returned (.bool (decide (len0 ≤ 1048576))) ∧ w' = w := by
  unfold maxLen at hl
  by_cases h0 : len0 ≤ 1048576
  all_goals
    go_enter Try.func5, Try.ntmps5
    go_wp2
    go_ret
    exact ⟨ret_bool (by simp [h0]), rfl⟩
end Go.Proofs.Qxb6616034a
