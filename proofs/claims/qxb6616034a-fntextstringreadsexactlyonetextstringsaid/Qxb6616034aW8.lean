/-
  FnTextStringReadsExactlyOneTextString (3): the model's failures, the walk.
-/
import Derived.Test.Qxb6616034aW7
namespace Go.Proofs.Qxb6616034a
open Go.RowKit

theorem says_bad {xs : List Int} {ao : Option Addr} {c : Nat} {w w' : World} {failed : Bool} (hv : View w (.slice ao xs.length c) xs) (hb : failed = true ∨ (failed = false ∧ BadHead xs)) (bel : Below w.heap.size w w') :
    Says xs failed w (.returned (.tuple #[.slice none 0 0, .slice ao xs.length c, .bool false])) w' := by
  refine ⟨none, 0, ao, c, true, [], xs, rfl, ?_, view_none _, hv, bel⟩
  rcases hb with rfl | ⟨rfl, hb⟩
  · exact .inl ⟨rfl, rfl, rfl, rfl⟩
  · exact .inr (.inl ⟨rfl, hb, rfl, rfl, rfl⟩)

set_option maxRecDepth 100000 in
set_option maxHeartbeats 2000000 in
theorem model_failed (ao : Option Addr) (c : Nat) (xs : List Int) (w : World) (hv : View w (.slice ao xs.length c) xs) :
    Calls Try.prog 8 #[.slice ao xs.length c, .bool true] w (Says xs true w) := by
  go_enter Try.func8, Try.ntmps8
  go_wp2
  go_ret3
  exact says_bad hv (.inl rfl) (Below.refl _ _)

set_option maxRecDepth 100000 in
set_option maxHeartbeats 2000000 in
theorem model_empty (ao : Option Addr) (c : Nat) (w : World) (hv : View w (.slice ao ([] : List Int).length c) []) :
    Calls Try.prog 8 #[.slice ao 0 c, .bool false] w (Says [] false w) := by
  go_enter Try.func8, Try.ntmps8
  go_wp2
  go_ret3
  exact says_bad hv (.inr ⟨rfl, .inl rfl⟩) (Below.refl _ _)

set_option maxRecDepth 100000 in
set_option maxHeartbeats 2000000 in
theorem model_head (g o c : Nat) (xs : List Int) (w : World) (hv : View w (.slice (some ⟨g, o, none⟩) xs.length c) xs) (hp : 0 < xs.length) (hm : xs.length ≤ 2097152) (x : Int) (hc0 : w.cell? ⟨g, o, none⟩ = some (.int .u8 x)) (hb : BadHead xs) (hr : 0 ≤ x ∧ x < 256)
    (hbad : x < 96 ∨ 123 < x ∨ (120 ≤ x ∧ x ≤ 123 ∧ xs.length < hlen x)) :
    Calls Try.prog 8 #[.slice (some ⟨g, o, none⟩) xs.length c, .bool false] w (Says xs false w) := by
  have hz : ((xs.length : Int) == 0) = false := beq_eq_false_iff_ne.2 (by omega)
  rcases hbad with h | h | ⟨h1, h2, h3⟩
  · go_enter Try.func8, Try.ntmps8
    go_wp2
    go_ret3
    exact says_bad hv (.inr ⟨rfl, hb⟩) (Below.refl _ _)
  · go_enter Try.func8, Try.ntmps8
    go_wp2
    go_ret3
    exact says_bad hv (.inr ⟨rfl, hb⟩) (Below.refl _ _)
  · rcases (show x = 120 ∨ x = 121 ∨ x = 122 ∨ x = 123 from by omega) with rfl | rfl | rfl | rfl
    all_goals
      simp [hlen] at h3
      go_enter Try.func8, Try.ntmps8
      go_wp2
      go_ret3
      exact says_bad hv (.inr ⟨rfl, hb⟩) (Below.refl _ _)

theorem model_any (ao : Option Addr) (c : Nat) (xs : List Int) (failed : Bool) (w : World) (hv : View w (.slice ao xs.length c) xs) :
    Calls Try.prog 8 #[.slice ao xs.length c, .bool failed] w (Says xs failed w) := by
  cases failed
  · by_cases h0 : xs = []
    · subst h0
      exact model_empty ao c w hv
    · obtain ⟨hr, _, h1, h2, hg⟩ := hv.open
      have hp := List.length_pos_iff.2 h0
      obtain ⟨g, o, rfl, hgl, hcell⟩ := hg hp
      have hc0 := hcell 0 hp
      rw [Nat.add_zero] at hc0
      by_cases hb : BadHead xs
      · refine model_head g o c xs w hv hp (by omega) _ hc0 hb (getD_range hr 0) ?_
        rcases hb with h | h | h | h
        · exact absurd h h0
        · exact .inl h
        · exact .inr (.inl h)
        · by_cases hs : xs.getD 0 0 < 120
          · have : hlen (xs.getD 0 0) = 1 := by unfold hlen; rw [if_pos hs]
            omega
          · by_cases ht : 123 < xs.getD 0 0
            · exact .inr (.inl ht)
            · exact .inr (.inr ⟨by omega, by omega, h⟩)
      · obtain ⟨n0, n1, n2, n3⟩ := BadHead.not hb
        by_cases hs : xs.getD 0 0 < 120
        · exact model1 g o c xs w hr h1 h2 hgl hcell hb hs
        · rcases (show xs.getD 0 0 = 120 ∨ xs.getD 0 0 = 121 ∨ xs.getD 0 0 = 122 ∨ xs.getD 0 0 = 123 from by omega) with h | h | h | h
          · exact model2 g o c xs w hr h1 h2 hgl hcell hb h
          · exact model3 g o c xs w hr h1 h2 hgl hcell hb h
          · exact model5 g o c xs w hr h1 h2 hgl hcell hb h
          · exact model9 g o c xs w hr h1 h2 hgl hcell hb h
  · exact model_failed ao c xs w hv

theorem model_at (ao : Option Addr) (c n : Nat) (xs : List Int) (failed : Bool) (w : World) (hn : xs.length = n) (hv : View w (.slice ao n c) xs) :
    Calls Try.prog 8 #[.slice ao n c, .bool failed] w (Says xs failed w) := by subst hn; exact model_any ao c xs failed w hv
theorem view_row {w : World} {ao : Option Addr} {n : Nat} {xs : List Int} (h : View w (.slice ao n n) xs) (hn : xs.length = n) : IsRow .u8 w ao n n xs := by
  subst hn
  obtain ⟨hr, ao', c, he, h1, h2, hg⟩ := h
  simp only [Value.slice.injEq] at he
  obtain ⟨rfl, _, rfl⟩ := he
  rcases hg with ⟨rfl, hc⟩ | ⟨g, o, rfl, hgl, hcell⟩
  · exact .inl ⟨rfl, hc, hc, List.eq_nil_of_length_eq_zero hc⟩
  · refine .inr ⟨_, rfl, Nat.le_refl _, by unfold maxLen; omega, rfl, fun i hi => ?_, fun z hz => ?_⟩
    · rw [show (⟨g, o, none⟩ : Addr).add i = ⟨g, o + i, none⟩ from by unfold Addr.add; split <;> simp_all]
      exact hcell i hi
    · have := hr z hz
      simp only [Lit.wf, Bool.and_eq_true, decide_eq_true_eq]
      have h1 : IntKind.u8.min = 0 := by decide
      have h2 : IntKind.u8.max = 255 := by decide
      rw [h1, h2]
      omega

set_option maxRecDepth 100000 in
set_option maxHeartbeats 4000000 in
theorem walk3 (a0 : Option Addr) (len0 cap0 : Nat) (z0 : List Int) (a1 : Bool) (w : World) (w0 : IsRow .u8 w a0 len0 cap0 z0) :
    Calls Try.prog 3 #[.slice a0 len0 cap0, .bool a1] w fun e w' => e = .returned (.bool true) ∧ Below w.heap.size w w' := by
  obtain ⟨hr0, hx0, hm0⟩ := row_range w0
  obtain ⟨xs, hxs⟩ : ∃ xs, xs = z0.take len0 := ⟨_, rfl⟩
  rw [← hxs] at hr0 hx0
  have HXS : Hid (z0.take len0 = xs) := hxs.symm
  have HX : Hid (xs.length = len0) := hx0
  clear hxs hx0
  have heql := fun (w : World) (a : Option Addr) (l c : Nat) => Lib.run_eql_slice_nil (P := Try.prog) w 22 5 a l c 0 0 Try.underlying22
  by_cases h1 : len0 ≤ 1048576
  · go_enter Try.func3, Try.ntmps3
    go_wp2_with (go_at_call 5; refine (bound5_any _ _ _ _ _ hm0).mono ?_; rintro e w' ⟨rfl, rfl⟩)
    refine (clone_any 0 a0 len0 cap0 z0 w' w0 (by omega) (Nat.zero_le _)).mono ?_
    rintro e wA ⟨ab, rfl, hoA, hbA⟩
    rw [HXS.out] at hoA
    have vA := own_view hoA HX.out (by omega) hr0
    go_wp2_with fail
    refine (clone_any 0 ab len0 len0 xs wA (view_row vA HX.out) (by omega) (Nat.zero_le _)).mono ?_
    rintro e wB ⟨ai, rfl, hoB, hbB⟩
    rw [List.take_of_length_le (Nat.le_of_eq HX.out)] at hoB
    have vI := own_view hoB HX.out (by omega) hr0
    have vB := vA.below hbB
    have hbase : Below w'.heap.size w' wB := hbA.trans (hbB.mono hbA.size)
    clear hoA hoB vA
    go_wp2_with fail
    refine (zz_lit _ xs a1 _ vB).mono ?_
    rintro e wG ⟨as1, cs1, ar1, cr1, f1, t1, q1, rfl, hR1, hs1, vs1, vr1, hbG⟩
    have vI2 := vI.below hbG
    go_wp2_with fail
    refine (model_at ai len0 len0 xs a1 _ HX.out vI2).mono ?_
    rintro e wH ⟨as2, cs2, ar2, cr2, f2, t2, q2, rfl, hR2, vs2, vr2, hbH⟩
    obtain ⟨rfl, rfl, rfl⟩ := hR1.same hR2
    have hfin := (hbase.trans (hbG.mono hbase.size)).trans (hbH.mono (hbase.trans (hbG.mono hbase.size)).size)
    have vs1' := vs1.below hbH
    have vr1' := vr1.below hbH
    have vs2' := vs2.below hbH
    have vr2' := vr2.below hbH
    clear hR1 hR2
    cases f1
    · go_wp2_with fail
      refine (eq_same _ _ t1 _ vs1' vs2').mono ?_
      rintro e wJ ⟨rfl, hbJ⟩
      go_wp2_with fail
      refine (eq_same _ _ q1 _ (vr1'.below hbJ) (vr2'.below hbJ)).mono ?_
      rintro e wK ⟨rfl, hbK⟩
      have hJK := hbJ.trans (hbK.mono hbJ.size)
      go_wp2_with fail
      go_ret
      exact ⟨rfl, hfin.trans (hJK.mono hfin.size)⟩
    · obtain rfl := hs1 rfl
      go_wp2_with fail
      refine (eq_same _ _ q1 _ vr1' vr2').mono ?_
      rintro e wK ⟨rfl, hbK⟩
      go_wp2_with fail
      go_ret
      exact ⟨rfl, hfin.trans (hbK.mono hfin.size)⟩
  · go_enter Try.func3, Try.ntmps3
    go_wp2_with (go_at_call 5; refine (bound5_any _ _ _ _ _ hm0).mono ?_; rintro e w' ⟨rfl, rfl⟩)
    go_ret
    exact ⟨rfl, Below.refl _ _⟩
end Go.Proofs.Qxb6616034a
