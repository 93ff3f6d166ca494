/-
  FnTextStringIgnoresWhatFollowsAndStaysFailed (4): the plain law, the walk.
-/
import Derived.Test.Qxb6616034aW4
namespace Go.Proofs.Qxb6616034a
open Go.RowKit

theorem getD_app {xs ys : List Int} (h : ¬ xs = []) : (xs ++ ys).getD 0 0 = xs.getD 0 0 := by
  cases xs with
  | nil => exact absurd rfl h
  | cons a b => rfl
theorem reads_app {xs ys t r : List Int} (h : Reads xs false false t r) : Reads (xs ++ ys) false false t (r ++ ys) := by
  rcases h with ⟨a, _⟩ | ⟨_, _, a, _⟩ | ⟨_, _, _, a, _⟩ | ⟨_, hb, k, hk, hkl, _, rfl, rfl⟩
  · cases a
  · cases a
  · cases a
  · obtain ⟨n0, n1, n2, n3⟩ := BadHead.not hb
    have hp := hlen_pos (xs.getD 0 0)
    have hg : (xs ++ ys).getD 0 0 = xs.getD 0 0 := getD_app n0
    have hN : narg (xs ++ ys) = narg xs := by
      unfold narg
      rw [hg, List.drop_append_of_le_length (by omega), List.take_append_of_le_length (by rw [List.length_drop]; omega)]
    refine .inr (.inr (.inr ⟨rfl, ?_, k, by rw [hN]; exact hk, by rw [hg, List.length_append]; omega, rfl, ?_, ?_⟩))
    · rintro (h | h | h | h)
      · exact n0 (List.append_eq_nil_iff.1 h).1
      · rw [hg] at h; omega
      · rw [hg] at h; omega
      · rw [hg, List.length_append] at h; omega
    · rw [hg, List.drop_append_of_le_length (by omega), List.take_append_of_le_length (by rw [List.length_drop]; omega)]
    · rw [hg, List.drop_append_of_le_length (by omega)]

theorem Reads.failed {xs t r : List Int} {f : Bool} (h : Reads xs true f t r) : f = true ∧ r = xs := by
  rcases h with ⟨_, a, _, b⟩ | ⟨a, _⟩ | ⟨a, _⟩ | ⟨a, _⟩
  · exact ⟨a, b⟩
  all_goals cases a
/-- A read that succeeded: head, text, rest. -/
theorem Reads.parts {xs t r : List Int} (h : Reads xs false false t r) : ∃ H : Nat, (H = 1 ∨ H = 2 ∨ H = 3 ∨ H = 5 ∨ H = 9) ∧ H + t.length + r.length = xs.length ∧ t = (xs.drop H).take t.length ∧ r = xs.drop (H + t.length) := by
  rcases h with ⟨a, _⟩ | ⟨_, _, a, _⟩ | ⟨_, _, _, a, _⟩ | ⟨_, hb, k, hk, hkl, _, rfl, rfl⟩
  · cases a
  · cases a
  · cases a
  · obtain ⟨n0, n1, n2, n3⟩ := BadHead.not hb
    have hl : ((xs.drop (hlen (xs.getD 0 0))).take k).length = k := by rw [List.length_take, List.length_drop]; omega
    refine ⟨hlen (xs.getD 0 0), ?_, by rw [hl, List.length_drop]; omega, by rw [hl], by rw [hl]⟩
    unfold hlen
    split <;> (try split) <;> (try split) <;> (try split) <;> simp

theorem own_view {w : World} {base : Nat} {ao : Option Addr} {n : Nat} {xs : List Int} (h : Own w base (.slice ao n n) xs) (hn : xs.length = n) (hm : n ≤ 2097152) (hr : ∀ z ∈ xs, 0 ≤ z ∧ z < 256) : View w (.slice ao n n) xs := by
  subst hn
  have hw := h
  obtain ⟨hl, ⟨hv, h0⟩ | ⟨g, cap, cur, hv, hb, hh, hc, hm', hs, ht⟩⟩ := h
  · simp only [Value.slice.injEq] at hv
    obtain ⟨rfl, _, h2⟩ := hv
    exact ⟨hr, none, _, rfl, Nat.le_refl _, hm, .inl ⟨rfl, h2⟩⟩
  · simp only [Value.slice.injEq] at hv
    obtain ⟨rfl, _, rfl⟩ := hv
    refine ⟨hr, _, _, rfl, Nat.le_refl _, hm, .inr ⟨g, 0, rfl, (Array.getElem?_eq_some_iff.1 hh).1, fun i hi => ?_⟩⟩
    rw [Nat.zero_add, World.ownsRow.cellAt hw i (by omega)]
    simp [hi]
theorem view_src {w : World} {ao : Option Addr} {n c : Nat} {xs : List Int} (h : View w (.slice ao n c) xs) :
    (ao = none → n = 0 ∧ c = 0) ∧ ∀ ad, ao = some ad → ∀ j u, (xs.map (Value.int .u8))[j]? = some u → w.cell? (ad.add j) = some u := by
  obtain ⟨hr, ao', c', he, h1, h2, hg⟩ := h
  simp only [Value.slice.injEq] at he
  obtain ⟨rfl, rfl, rfl⟩ := he
  refine ⟨fun h => ?_, fun ad had j u hj => ?_⟩
  · rcases hg with ⟨_, rfl⟩ | ⟨g, o, h', _⟩
    · exact ⟨by omega, rfl⟩
    · rw [h] at h'; cases h'
  · rw [List.getElem?_map, Option.map_eq_some_iff] at hj
    obtain ⟨z, hz, rfl⟩ := hj
    have hjl := (List.getElem?_eq_some_iff.1 hz).1
    rcases hg with ⟨h', _⟩ | ⟨g, o, h', hgl, hc⟩
    · rw [had] at h'; cases h'
    · rw [had] at h'
      cases h'
      have := hc j hjl
      rw [show (⟨g, o, none⟩ : Addr).add j = ⟨g, o + j, none⟩ from by unfold Addr.add; split <;> simp_all, this]
      simp [List.getD, hz]
theorem row_range {k : World} {a : Option Addr} {len cap : Nat} {zs : List Int} (h : IsRow .u8 k a len cap zs) : (∀ z ∈ zs.take len, 0 ≤ z ∧ z < 256) ∧ (zs.take len).length = len ∧ len ≤ maxLen := by
  rcases h with ⟨rfl, rfl, rfl, rfl⟩ | ⟨x, rfl, hl, hm, hz, _, hwf⟩
  · simp
  · refine ⟨fun z hzz => ?_, by simp; omega, by omega⟩
    have := hwf z (List.mem_of_mem_take hzz)
    simp only [Lit.wf, Bool.and_eq_true, decide_eq_true_eq] at this
    have h1 : IntKind.u8.min = 0 := by decide
    have h2 : IntKind.u8.max = 255 := by decide
    rw [h1, h2] at this
    omega
end Go.Proofs.Qxb6616034a
