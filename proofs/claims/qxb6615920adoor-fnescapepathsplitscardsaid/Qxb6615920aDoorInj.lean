/-
  FnEscapePathInjective (4): the plain law, the walk.
-/
import Derived.Test.Qxb6615920aDoorW3
namespace Go.Proofs.Qxb6615920aDoor
open Go.RowKit

theorem hexd_lt (k : Nat) (h : k < 16) : 0 ≤ hexd k ∧ hexd k < 256 := by unfold hexd; split <;> omega
theorem hexd_inj (a b : Nat) (_ha : a < 16) (_hb : b < 16) (h : hexd a = hexd b) : a = b := by unfold hexd at h; split at h <;> split at h <;> omega
theorem kept37 : keptB 37 = false := by decide
theorem kept42 : keptB 42 = false := by decide
theorem u8_lt (c : UInt8) : c.toNat < 256 := c.toNat_lt

theorem escL_cons (c : UInt8) (r : List UInt8) : escL (c :: r) = esc1 c ++ escL r := rfl
theorem escL_app (a b : List UInt8) : escL (a ++ b) = escL a ++ escL b := by unfold escL; rw [List.flatMap_append]
theorem escL_range (l : List UInt8) : ∀ x ∈ escL l, 0 ≤ x ∧ x < 256 := by
  induction l with
  | nil => intro x hx; cases hx
  | cons c r ih =>
    intro x hx
    have hc := u8_lt c
    rw [escL_cons, List.mem_append] at hx
    rcases hx with hx | hx
    · cases hk : keptB c.toNat
      · rw [esc1_esc hk] at hx
        simp only [List.mem_cons, List.not_mem_nil, or_false] at hx
        rcases hx with rfl | rfl | rfl
        · omega
        · exact hexd_lt _ (by omega)
        · exact hexd_lt _ (by omega)
      · rw [esc1_kept hk] at hx
        simp only [List.mem_cons, List.not_mem_nil, or_false] at hx
        omega
    · exact ih x hx
theorem escL_inj : ∀ (a b : List UInt8), escL a = escL b → a = b := by
  intro a
  induction a with
  | nil =>
    intro b h
    cases b with
    | nil => rfl
    | cons d q =>
      rw [escL_cons] at h
      cases hk : keptB d.toNat
      · rw [esc1_esc hk] at h; simp [escL] at h
      · rw [esc1_kept hk] at h; simp [escL] at h
  | cons c r ih =>
    intro b h
    cases b with
    | nil =>
      rw [escL_cons] at h
      cases hk : keptB c.toNat
      · rw [esc1_esc hk] at h; simp [escL] at h
      · rw [esc1_kept hk] at h; simp [escL] at h
    | cons d q =>
      rw [escL_cons, escL_cons] at h
      have hc := u8_lt c
      have hd := u8_lt d
      cases hk : keptB c.toNat <;> cases hj : keptB d.toNat
      · rw [esc1_esc hk, esc1_esc hj] at h
        simp only [List.cons_append, List.nil_append, List.cons.injEq, true_and] at h
        have h1 := hexd_inj _ _ (by omega) (by omega) h.1
        have h2 := hexd_inj _ _ (by omega) (by omega) h.2.1
        have : c = d := UInt8.toNat_inj.1 (by omega)
        rw [this, ih q h.2.2]
      · rw [esc1_esc hk, esc1_kept hj] at h
        simp only [List.cons_append, List.nil_append, List.cons.injEq] at h
        rw [← h.1, kept37] at hj; cases hj
      · rw [esc1_kept hk, esc1_esc hj] at h
        simp only [List.cons_append, List.nil_append, List.cons.injEq] at h
        rw [h.1, kept37] at hk; cases hk
      · rw [esc1_kept hk, esc1_kept hj] at h
        simp only [List.cons_append, List.nil_append, List.cons.injEq] at h
        have : c = d := UInt8.toNat_inj.1 (by omega)
        rw [this, ih q h.2]
theorem escL_star (b : List UInt8) : escL b ≠ [42] := by
  intro h
  cases b with
  | nil => simp [escL] at h
  | cons d q =>
    rw [escL_cons] at h
    cases hj : keptB d.toNat
    · rw [esc1_esc hj] at h
      simp at h
    · rw [esc1_kept hj] at h
      simp only [List.cons_append, List.nil_append, List.cons.injEq] at h
      rw [h.1, kept42] at hj; cases hj

def numsOf (s : ByteArray) : List Int := s.data.toList.map fun c => (c.toNat : Int)
theorem numsOf_str (xs : List Int) (h : ∀ x ∈ xs, 0 ≤ x ∧ x < 256) : numsOf (strOfNums xs) = xs := by
  unfold numsOf
  rw [strOfNums_data, List.map_map]
  conv => rhs; rw [← List.map_id xs]
  refine List.map_congr_left fun x hx => ?_
  have := h x hx
  simp only [Function.comp_apply, UInt8.toNat_ofNat', id_eq]
  omega
theorem toList_inj {a b : ByteArray} (h : a.data.toList = b.data.toList) : a = b := by
  cases a; cases b; simp at h; rw [h]

theorem ep_inj (a b : ByteArray) (h : ep a = ep b) : a.toList = b.toList := by
  rw [ByteArray.toList_eq, ByteArray.toList_eq]
  have star : numsOf ⟨#[42]⟩ = [42] := by decide
  cases ha : (a.toList == [42]) <;> cases hb : (b.toList == [42])
  · rw [ep_other ha, ep_other hb] at h
    have := congrArg numsOf h
    rw [numsOf_str _ (escL_range _), numsOf_str _ (escL_range _)] at this
    exact escL_inj _ _ this
  · rw [ep_other ha, ep_star hb] at h
    have := congrArg numsOf h
    rw [numsOf_str _ (escL_range _), star] at this
    exact absurd this (escL_star _)
  · rw [ep_star ha, ep_other hb] at h
    have := congrArg numsOf h
    rw [numsOf_str _ (escL_range _), star] at this
    exact absurd this.symm (escL_star _)
  · rw [ByteArray.toList_eq, beq_iff_eq] at ha hb
    rw [ha, hb]
theorem ep_size (a : ByteArray) : ((ep a).size : Int) = if (a.toList == [42]) = true then (1 : Int) else (a.size : Int) + 2 * (cnt a.data.toList : Int) := by
  cases ha : (a.toList == [42])
  · rw [ep_other ha, strOfNums_size, escL_length]
    simp
  · rw [ep_star ha]; rfl

set_option maxRecDepth 100000 in
set_option maxHeartbeats 1000000 in
theorem inj_any (a b : ByteArray) (w : World) (ha : a.size ≤ maxLen) (hb : b.size ≤ maxLen) (ht : Tab w) :
    Calls Tryd.prog 4 #[.string a, .string b] w fun e w' => e = .returned (.bool true) ∧ Below w.heap.size w w' := by
  by_cases h1 : a.size + b.size ≤ 1048576
  · cases h2 : (a.toList == b.toList)
    · have hne : ((ep a).toList == (ep b).toList) = false := by
        rw [beq_eq_false_iff_ne]
        intro h
        rw [ByteArray.toList_eq, ByteArray.toList_eq] at h
        rw [ep_inj a b (toList_inj h)] at h2
        simp at h2
      go_enter Tryd.func4, Tryd.ntmps4
      go_wp2_with (first | (go_at_call 8; refine (bound8_any _ _ _ ha hb).mono ?_; rintro e w' ⟨rfl, rfl⟩))
      refine (zz_any a _ (by omega) ht).mono ?_
      rintro e w1 ⟨rfl, hb1⟩
      go_wp2_with fail
      refine (zz_any b _ (by omega) (ht.below hb1 ht.1)).mono ?_
      rintro e w2 ⟨rfl, hb2⟩
      go_wp2_with fail
      refine (escapedLen_any a _ (by omega)).mono ?_
      rintro e w3 ⟨rfl, rfl⟩
      rw [← ep_size a]
      go_wp2
      go_ret
      exact ⟨by simp, hb1.trans (hb2.mono hb1.size)⟩
    · go_enter Tryd.func4, Tryd.ntmps4
      go_wp2_with (first | (go_at_call 8; refine (bound8_any _ _ _ ha hb).mono ?_; rintro e w' ⟨rfl, rfl⟩))
      go_ret
      exact ⟨rfl, Below.refl _ _⟩
  · go_enter Tryd.func4, Tryd.ntmps4
    go_wp2_with (first | (go_at_call 8; refine (bound8_any _ _ _ ha hb).mono ?_; rintro e w' ⟨rfl, rfl⟩))
    go_ret
    exact ⟨rfl, Below.refl _ _⟩
end Go.Proofs.Qxb6615920aDoor
