/-
  FnTextStringIgnoresWhatFollowsAndStaysFailed (4): the walk.
-/
import Derived.Test.Qxb6616034aW5
namespace Go.Proofs.Qxb6616034a
open Go.RowKit

set_option maxHeartbeats 1000000 in
theorem bound10_any (a0 : Option Addr) (len0 cap0 : Nat) (a1 : Option Addr) (len1 cap1 : Nat) (b : Bool) (w : World) (hl : len0 ≤ maxLen) (hl1 : len1 ≤ maxLen) :
    Calls Try.prog 10 #[.slice a0 len0 cap0, .slice a1 len1 cap1, .bool b] w fun e w' => e = .returned (.bool (decide (len0 + len1 ≤ 1048576))) ∧ w' = w := by
  unfold maxLen at hl hl1
  by_cases h0 : len0 ≤ 1048576
  · by_cases h1 : len1 ≤ 1048576
    · by_cases h2 : len0 + len1 ≤ 1048576
      all_goals
        go_enter Try.func10, Try.ntmps10
        go_wp2
        go_ret
        exact ⟨ret_bool (by simp [h2]), rfl⟩
    · go_enter Try.func10, Try.ntmps10
      go_wp2
      go_ret
      exact ⟨ret_false (by simp; omega), rfl⟩
  · go_enter Try.func10, Try.ntmps10
    go_wp2
    go_ret
    exact ⟨ret_false (by simp; omega), rfl⟩

theorem IsRow.below {k : IntKind} {w w' : World} {a : Option Addr} {len cap : Nat} {zs : List Int} (h : IsRow k w a len cap zs) (hb : Below w.heap.size w w') : IsRow k w' a len cap zs := by
  rcases h with h | ⟨x, rfl, hl, hm, hz, hc, hwf⟩
  · exact .inl h
  · refine .inr ⟨x, rfl, hl, hm, hz, fun i hi => ?_, hwf⟩
    have h1 := hc i hi
    have hlt : (x.add i).block < w.heap.size := by
      rcases Nat.lt_or_ge (x.add i).block w.heap.size with h | h
      · exact h
      · unfold World.cell? at h1
        rw [Array.getElem?_eq_none h] at h1
        cases h1
    rw [hb.cell hlt, h1]

theorem map_len (xs : List Int) (n : Nat) (h : xs.length = n) : (xs.map (Value.int .u8)).length = n * 1 := by rw [List.length_map, h, Nat.mul_one]

theorem own_app {w : World} {v : Value} {n : Nat} {xs ys : List Int} (h : w.ownsRow 0 5 1 v n (xs.map (Value.int .u8) ++ ys.map (Value.int .u8))) (hn : (xs ++ ys).length = n) : Own w 0 v (xs ++ ys) := by
  unfold Own; rw [hn, List.map_append]; exact h
theorem app_range {xs ys : List Int} (h : ∀ z ∈ xs, 0 ≤ z ∧ z < 256) (h' : ∀ z ∈ ys, 0 ≤ z ∧ z < 256) : ∀ z ∈ xs ++ ys, 0 ≤ z ∧ z < 256 := by
  intro z hz; rcases List.mem_append.1 hz with hz | hz
  · exact h z hz
  · exact h' z hz
theorem zz_lit (v : Value) (xs : List Int) (failed : Bool) (w : World) (hv : View w v xs) :
    Calls Try.prog 7 #[v, .bool failed] w fun e w' => ∃ sa cs ra cr f t rest, e = .returned (.tuple #[.slice sa t.length cs, .slice ra rest.length cr, .bool f]) ∧ Reads xs failed f t rest ∧ (f = true → sa = none) ∧ View w' (.slice sa t.length cs) t ∧ View w' (.slice ra rest.length cr) rest ∧ Below w.heap.size w w' := by
  refine (zz_any v xs failed w hv).mono ?_
  rintro e w' ⟨s, r, f, t, rest, rfl, hR, hs, vs, vr, hb⟩
  have vs' := vs
  have vr' := vr
  obtain ⟨_, sa, cs, rfl, _⟩ := vs'
  obtain ⟨_, ra, cr, rfl, _⟩ := vr'
  refine ⟨sa, cs, ra, cr, f, t, rest, rfl, hR, fun h => ?_, vs, vr, hb⟩
  have := hs h
  simp only [Value.slice.injEq] at this
  exact this.1

theorem view_empty {w : World} {g o c : Nat} {t : List Int} (ht : t.length ≤ 0) (hg : g < w.heap.size) (hc : c ≤ 2097152) : View w (.slice (some ⟨g, o, none⟩) t.length c) t := by
  obtain rfl : t = [] := List.eq_nil_of_length_eq_zero (by omega)
  exact ⟨fun z hz => absurd hz (by simp), some ⟨g, o, none⟩, c, rfl, Nat.zero_le _, hc, Or.inr ⟨g, o, rfl, hg, fun i hi => absurd hi (Nat.not_lt_zero i)⟩⟩
theorem view_len {w : World} {ao : Option Addr} {c n : Nat} {q : List Int} (h : View w (.slice ao q.length c) q) (hn : n = q.length) : View w (.slice ao n c) q := by subst hn; exact h
theorem view_part (H : Nat) {w : World} {g o c : Nat} {xs t : List Int} (hr : ∀ z ∈ xs, 0 ≤ z ∧ z < 256) (hgl : g < w.heap.size) (hcell : ∀ i, i < xs.length → w.cell? ⟨g, o + i, none⟩ = some (.int .u8 (xs.getD i 0)))
    (ht : t = (xs.drop H).take t.length) (hc : t.length ≤ c) (hc2 : c ≤ 2097152) : View w (.slice (some ⟨g, o + H, none⟩) t.length c) t := by
  have hl : t.length ≤ xs.length - H := by
    have := congrArg List.length ht
    rw [List.length_take, List.length_drop] at this
    omega
  have := view_take (w := w) (g := g) (o := o + H) (c := c) (k := t.length) (xs := xs.drop H) (fun z hz => hr z (List.mem_of_mem_drop hz)) (by rw [List.length_drop]; exact hl) hc hc2 hgl (fun i hi => by
    rw [List.length_drop] at hi
    have := hcell (H + i) (by omega)
    rw [Nat.add_assoc, this]
    simp [List.getD, List.getElem?_drop])
  rw [← ht] at this
  exact this

set_option maxRecDepth 100000 in
set_option maxHeartbeats 8000000 in
theorem walk4 (a0 : Option Addr) (len0 cap0 : Nat) (z0 : List Int) (a1 : Option Addr) (len1 cap1 : Nat) (z1 : List Int) (a2 : Bool) (w : World) (w0 : IsRow .u8 w a0 len0 cap0 z0) (w1 : IsRow .u8 w a1 len1 cap1 z1) :
    Calls Try.prog 4 #[.slice a0 len0 cap0, .slice a1 len1 cap1, .bool a2] w fun e w' => e = .returned (.bool true) ∧ Below w.heap.size w w' := by
  obtain ⟨hr0, hx0, hm0⟩ := row_range w0
  obtain ⟨hr1, hx1, hm1⟩ := row_range w1
  obtain ⟨xs, hxs⟩ : ∃ xs, xs = z0.take len0 := ⟨_, rfl⟩
  obtain ⟨ys, hys⟩ : ∃ ys, ys = z1.take len1 := ⟨_, rfl⟩
  rw [← hxs] at hr0 hx0
  rw [← hys] at hr1 hx1
  have HXS : Hid (z0.take len0 = xs) := hxs.symm
  have HYS : Hid (z1.take len1 = ys) := hys.symm
  have HX : Hid (xs.length = len0) := hx0
  have HY : Hid (ys.length = len1) := hx1
  clear hxs hys hx0 hx1
  have heql := fun (w : World) (a : Option Addr) (l c : Nat) => Lib.run_eql_slice_nil (P := Try.prog) w 22 5 a l c 0 0 Try.underlying22
  by_cases h1 : len0 + len1 ≤ 1048576
  · obtain ⟨i0, hi, hz0, hz1, hz2⟩ := info_parts info5
    go_enter Try.func4, Try.ntmps4
    go_wp2_with (go_at_call 10; refine (bound10_any _ _ _ _ _ _ _ _ hm0 hm1).mono ?_; rintro e w' ⟨rfl, rfl⟩)
    refine (clone_any 0 a0 len0 cap0 z0 w' w0 (by omega) (Nat.zero_le _)).mono ?_
    rintro e wA ⟨ab, rfl, hoA, hbA⟩
    rw [HXS.out] at hoA
    have vA := own_view hoA HX.out (by omega) hr0
    go_wp2_with fail
    refine (clone_any 0 a1 len1 cap1 z1 wA (w1.below hbA) (by omega) (Nat.zero_le _)).mono ?_
    rintro e wB ⟨ae, rfl, hoB, hbB⟩
    rw [HYS.out] at hoB
    have vE := own_view hoB HY.out (by omega) hr1
    have vB := vA.below hbB
    clear hoA hoB vA
    go_wp2_with (first | (at_make; refine wpList_make_own _ rfl _ _ 22 rfl 0 5 i0 (.int .u8 0) 1 Try.underlying22 hi hz0 hz1 _ _ _ (len0 + len1) rfl rfl (by omega) (by rw [hz2]; omega) (by unfold maxLen; omega) (Nat.zero_le _) ?_; intro wC hownC hgrowC; have hbC := (Below.refl wB.heap.size wB).grown hgrowC (Nat.le_refl _) (by simp); have sB := view_src (vB.below hbC)) | (at_builtin; refine wpList_append_fits_any _ rfl (.tmp 43) (.tmp 44) 22 rfl 0 5 i0 1 Try.underlying22 hi hz1 wB.heap.size 0 (len0 + len1) [] rfl hownC ab len0 len0 (xs.map (Value.int .u8)) rfl (map_len xs len0 HX.out) sB.1 sB.2 (bytes_one _) (by omega) ?_; intro wD hownD hgrowD; simp only [Nat.zero_add, List.nil_append] at hownD; have hbD := hbC.grown hgrowD hbC.size (by intro k hk; cases hk; exact Nat.le_refl _); have sE := view_src (vE.below hbD)) | (at_builtin; refine wpList_append_fits_any _ rfl (.tmp 46) (.tmp 47) 22 rfl 0 5 i0 1 Try.underlying22 hi hz1 wB.heap.size len0 (len0 + len1) (xs.map (Value.int .u8)) rfl hownD ae len1 len1 (ys.map (Value.int .u8)) rfl (map_len ys len1 HY.out) sE.1 sE.2 (bytes_one _) (by omega) ?_; intro wF hownF hgrowF; have hbF := hbD.grown hgrowF hbD.size (by intro k hk; cases hk; exact Nat.le_refl _)))
    have vJ := own_view (own_app hownF (by rw [List.length_append, HX.out, HY.out])) (by rw [List.length_append, HX.out, HY.out]) (by omega) (app_range hr0 hr1)
    have vB2 := vB.below hbF
    have vE2 := vE.below hbF
    have hbase : Below w'.heap.size w' wF := (hbA.trans (hbB.mono hbA.size)).trans (hbF.mono (hbA.trans (hbB.mono hbA.size)).size)
    clear hownC hownD hownF hgrowC hgrowD hgrowF hbC hbD sB sE vB vE hbA hbB
    refine (zz_lit _ xs a2 _ vB2).mono ?_
    rintro e wG ⟨as1, cs1, ar1, cr1, f1, t1, q1, rfl, hR1, hs1, vs1, vr1, hbG⟩
    go_wp2_with fail
    refine (zz_lit _ (xs ++ ys) a2 _ (vJ.below hbG)).mono ?_
    rintro e wH ⟨as2, cs2, ar2, cr2, f2, t2, q2, rfl, hR2, hs2, vs2, vr2, hbH⟩
    go_wp2_with fail
    refine (zz_lit _ q1 f1 _ (vr1.below hbH)).mono ?_
    rintro e wI ⟨as3, cs3, ar3, cr3, f3, t3, q3, rfl, hR3, hs3, vs3, vr3, hbI⟩
    have hGI := hbH.trans (hbI.mono hbH.size)
    have hFI := hbG.trans (hGI.mono hbG.size)
    have hfin := hbase.trans (hFI.mono hbase.size)
    have vJ2 := vJ.below hFI
    have vB3 := vB2.below hFI
    have vr1' := vr1.below hGI
    have vr2' := vr2.below hbI
    cases a2
    · cases f1
      · obtain ⟨e2, e2t, e2q⟩ := (reads_app (ys := ys) hR1).same hR2
        subst e2
        have ET : Hid (t2 = t1) := e2t.symm
        have EQ : Hid (q2 = q1 ++ ys) := e2q.symm
        obtain ⟨H, hH, hsum, ht, hq⟩ := hR1.parts
        have hx := HX.out
        have HT : Hid (t1 = (xs.drop H).take t1.length) := ht
        have HQ2 : Hid (q1 = (xs.drop (H + t1.length)).take q1.length) := by show _ = _; rw [← hq, List.take_of_length_le (Nat.le_refl _)]
        have hle : len0 ≤ H + t1.length + q1.length := by omega
        have hge : H + t1.length + q1.length ≤ len0 := by omega
        obtain ⟨gb, ob, rfl, hgl, hcb⟩ := vB3.open.2.2.2.2 (by omega)
        have HCB : Hid (∀ i, i < xs.length → wI.cell? ⟨gb, ob + i, none⟩ = some (.int .u8 (xs.getD i 0))) := hcb
        have vS := vs1.below hGI
        have vS2 := vs2.below hbI
        have vE3 := vE2.below hFI
        have hh : ((len0 : Int) - (t1.length : Int) - (q1.length : Int)) = (H : Int) := by omega
        clear e2t e2q ht hq hR1 hR2 hR3 hsum hx hcb
        have hrq := vr1.1
        rcases hH with rfl | rfl | rfl | rfl | rfl
        all_goals
          by_cases hc1 : q1.length ≤ 0
          · by_cases hc2 : t1.length ≤ 0
            · go_wp2_with fail
              refine (eq_same _ _ t1 _ (view_empty hc2 hgl (by omega)) vS).mono ?_
              rintro e wJ ⟨rfl, hbJ⟩
              go_wp2_with fail
              refine (eq_same _ _ q1 _ (view_len (view_empty hc1 (Nat.lt_of_lt_of_le hgl hbJ.size) (by omega)) (by omega)) (vr1'.below hbJ)).mono ?_
              rintro e wK ⟨rfl, hbK⟩
              have hJK := hbJ.trans (hbK.mono hbJ.size)
              go_wp2_with fail
              refine (eq_same _ _ t1 _ (by have := vS2.below hJK; rw [ET.out] at this; rw [ET.out]; exact this) (vS.below hJK)).mono ?_
              rintro e wL ⟨rfl, hbL⟩
              have hJL := hJK.trans (hbL.mono hJK.size)
              have vR := vr1'.below hJL
              have vX := vE3.below hJL
              go_wp2_with (first | (at_make; refine wpList_make_own _ rfl _ _ 22 rfl 0 5 i0 (.int .u8 0) 1 Try.underlying22 hi hz0 hz1 _ _ _ (q1.length + len1) rfl rfl (by omega) (by rw [hz2]; omega) (by unfold maxLen; omega) (Nat.zero_le _) ?_; intro wM hownM hgrowM; have hbM := (Below.refl wL.heap.size wL).grown hgrowM (Nat.le_refl _) (by simp); have sR := view_src (vR.below hbM)) | (at_builtin; refine wpList_append_fits_any _ rfl (.tmp 180) (.tmp 181) 22 rfl 0 5 i0 1 Try.underlying22 hi hz1 wL.heap.size 0 (q1.length + len1) [] rfl hownM ar1 q1.length cr1 (q1.map (Value.int .u8)) rfl (map_len q1 q1.length rfl) sR.1 sR.2 (bytes_one _) (by omega) ?_; intro wN hownN hgrowN; simp only [Nat.zero_add, List.nil_append] at hownN; have hbN := hbM.grown hgrowN hbM.size (by intro k hk; cases hk; exact Nat.le_refl _); have sX := view_src (vX.below hbN)) | (at_builtin; refine wpList_append_fits_any _ rfl (.tmp 183) (.tmp 184) 22 rfl 0 5 i0 1 Try.underlying22 hi hz1 wL.heap.size q1.length (q1.length + len1) (q1.map (Value.int .u8)) rfl hownN ae len1 len1 (ys.map (Value.int .u8)) rfl (map_len ys len1 HY.out) sX.1 sX.2 (bytes_one _) (by omega) ?_; intro wO hownO hgrowO; have hbO := hbN.grown hgrowO hbN.size (by intro k hk; cases hk; exact Nat.le_refl _)))
              have vW := own_view (own_app hownO (by rw [List.length_append, HY.out])) (by rw [List.length_append, HY.out]) (by omega) (app_range hrq hr1)
              have hJO := hJL.trans (hbO.mono hJL.size)
              refine (eq_same _ _ (q1 ++ ys) _ (by have := vr2'.below hJO; rw [EQ.out] at this; rw [EQ.out]; exact this) vW).mono ?_
              rintro e wP ⟨rfl, hbP⟩
              go_wp2_with fail
              go_ret
              exact ⟨rfl, hfin.trans ((hJO.trans (hbP.mono hJO.size)).mono hfin.size)⟩
            · go_wp2_with fail
              refine (eq_same _ _ t1 _ (view_part _ hr0 hgl HCB.out HT.out (by omega) (by omega)) vS).mono ?_
              rintro e wJ ⟨rfl, hbJ⟩
              go_wp2_with fail
              refine (eq_same _ _ q1 _ (view_len (view_empty hc1 (Nat.lt_of_lt_of_le hgl hbJ.size) (by omega)) (by omega)) (vr1'.below hbJ)).mono ?_
              rintro e wK ⟨rfl, hbK⟩
              have hJK := hbJ.trans (hbK.mono hbJ.size)
              go_wp2_with fail
              refine (eq_same _ _ t1 _ (by have := vS2.below hJK; rw [ET.out] at this; rw [ET.out]; exact this) (vS.below hJK)).mono ?_
              rintro e wL ⟨rfl, hbL⟩
              have hJL := hJK.trans (hbL.mono hJK.size)
              have vR := vr1'.below hJL
              have vX := vE3.below hJL
              go_wp2_with (first | (at_make; refine wpList_make_own _ rfl _ _ 22 rfl 0 5 i0 (.int .u8 0) 1 Try.underlying22 hi hz0 hz1 _ _ _ (q1.length + len1) rfl rfl (by omega) (by rw [hz2]; omega) (by unfold maxLen; omega) (Nat.zero_le _) ?_; intro wM hownM hgrowM; have hbM := (Below.refl wL.heap.size wL).grown hgrowM (Nat.le_refl _) (by simp); have sR := view_src (vR.below hbM)) | (at_builtin; refine wpList_append_fits_any _ rfl (.tmp 180) (.tmp 181) 22 rfl 0 5 i0 1 Try.underlying22 hi hz1 wL.heap.size 0 (q1.length + len1) [] rfl hownM ar1 q1.length cr1 (q1.map (Value.int .u8)) rfl (map_len q1 q1.length rfl) sR.1 sR.2 (bytes_one _) (by omega) ?_; intro wN hownN hgrowN; simp only [Nat.zero_add, List.nil_append] at hownN; have hbN := hbM.grown hgrowN hbM.size (by intro k hk; cases hk; exact Nat.le_refl _); have sX := view_src (vX.below hbN)) | (at_builtin; refine wpList_append_fits_any _ rfl (.tmp 183) (.tmp 184) 22 rfl 0 5 i0 1 Try.underlying22 hi hz1 wL.heap.size q1.length (q1.length + len1) (q1.map (Value.int .u8)) rfl hownN ae len1 len1 (ys.map (Value.int .u8)) rfl (map_len ys len1 HY.out) sX.1 sX.2 (bytes_one _) (by omega) ?_; intro wO hownO hgrowO; have hbO := hbN.grown hgrowO hbN.size (by intro k hk; cases hk; exact Nat.le_refl _)))
              have vW := own_view (own_app hownO (by rw [List.length_append, HY.out])) (by rw [List.length_append, HY.out]) (by omega) (app_range hrq hr1)
              have hJO := hJL.trans (hbO.mono hJL.size)
              refine (eq_same _ _ (q1 ++ ys) _ (by have := vr2'.below hJO; rw [EQ.out] at this; rw [EQ.out]; exact this) vW).mono ?_
              rintro e wP ⟨rfl, hbP⟩
              go_wp2_with fail
              go_ret
              exact ⟨rfl, hfin.trans ((hJO.trans (hbP.mono hJO.size)).mono hfin.size)⟩
          · go_wp2_with fail
            refine (eq_same _ _ t1 _ (view_part _ hr0 hgl HCB.out HT.out (by omega) (by omega)) vS).mono ?_
            rintro e wJ ⟨rfl, hbJ⟩
            go_wp2_with fail
            refine (eq_same _ _ q1 _ ((view_len (view_part _ hr0 hgl HCB.out HQ2.out (by omega) (by omega)) (by omega)).below hbJ) (vr1'.below hbJ)).mono ?_
            rintro e wK ⟨rfl, hbK⟩
            have hJK := hbJ.trans (hbK.mono hbJ.size)
            go_wp2_with fail
            refine (eq_same _ _ t1 _ (by have := vS2.below hJK; rw [ET.out] at this; rw [ET.out]; exact this) (vS.below hJK)).mono ?_
            rintro e wL ⟨rfl, hbL⟩
            have hJL := hJK.trans (hbL.mono hJK.size)
            have vR := vr1'.below hJL
            have vX := vE3.below hJL
            go_wp2_with (first | (at_make; refine wpList_make_own _ rfl _ _ 22 rfl 0 5 i0 (.int .u8 0) 1 Try.underlying22 hi hz0 hz1 _ _ _ (q1.length + len1) rfl rfl (by omega) (by rw [hz2]; omega) (by unfold maxLen; omega) (Nat.zero_le _) ?_; intro wM hownM hgrowM; have hbM := (Below.refl wL.heap.size wL).grown hgrowM (Nat.le_refl _) (by simp); have sR := view_src (vR.below hbM)) | (at_builtin; refine wpList_append_fits_any _ rfl (.tmp 180) (.tmp 181) 22 rfl 0 5 i0 1 Try.underlying22 hi hz1 wL.heap.size 0 (q1.length + len1) [] rfl hownM ar1 q1.length cr1 (q1.map (Value.int .u8)) rfl (map_len q1 q1.length rfl) sR.1 sR.2 (bytes_one _) (by omega) ?_; intro wN hownN hgrowN; simp only [Nat.zero_add, List.nil_append] at hownN; have hbN := hbM.grown hgrowN hbM.size (by intro k hk; cases hk; exact Nat.le_refl _); have sX := view_src (vX.below hbN)) | (at_builtin; refine wpList_append_fits_any _ rfl (.tmp 183) (.tmp 184) 22 rfl 0 5 i0 1 Try.underlying22 hi hz1 wL.heap.size q1.length (q1.length + len1) (q1.map (Value.int .u8)) rfl hownN ae len1 len1 (ys.map (Value.int .u8)) rfl (map_len ys len1 HY.out) sX.1 sX.2 (bytes_one _) (by omega) ?_; intro wO hownO hgrowO; have hbO := hbN.grown hgrowO hbN.size (by intro k hk; cases hk; exact Nat.le_refl _)))
            have vW := own_view (own_app hownO (by rw [List.length_append, HY.out])) (by rw [List.length_append, HY.out]) (by omega) (app_range hrq hr1)
            have hJO := hJL.trans (hbO.mono hJL.size)
            refine (eq_same _ _ (q1 ++ ys) _ (by have := vr2'.below hJO; rw [EQ.out] at this; rw [EQ.out]; exact this) vW).mono ?_
            rintro e wP ⟨rfl, hbP⟩
            go_wp2_with fail
            go_ret
            exact ⟨rfl, hfin.trans ((hJO.trans (hbP.mono hJO.size)).mono hfin.size)⟩
      · obtain ⟨rfl, e3⟩ := hR3.failed
        have E3 : Hid (q3 = q1) := e3
        obtain rfl := hs1 rfl
        obtain rfl := hs3 rfl
        clear e3 hR1 hR2 hR3
        go_wp2_with fail
        refine (eq_same _ _ q1 _ (by have := vr3; rw [E3.out] at this; rw [E3.out]; exact this) vr1').mono ?_
        rintro e wJ ⟨rfl, hbJ⟩
        go_wp2_with fail
        go_ret
        exact ⟨rfl, hfin.trans (hbJ.mono hfin.size)⟩
    · obtain ⟨rfl, e1⟩ := hR1.failed
      obtain ⟨rfl, e2⟩ := hR2.failed
      obtain ⟨rfl, e3⟩ := hR3.failed
      have E1 : Hid (q1 = xs) := e1
      have E2 : Hid (q2 = xs ++ ys) := e2
      have E3 : Hid (q3 = q1) := e3
      obtain rfl := hs1 rfl
      obtain rfl := hs2 rfl
      obtain rfl := hs3 rfl
      clear e1 e2 e3 hR1 hR2 hR3
      go_wp2_with fail
      refine (eq_same _ _ xs _ (by have := vr1'; rw [E1.out] at this; rw [E1.out]; exact this) vB3).mono ?_
      rintro e wJ ⟨rfl, hbJ⟩
      go_wp2_with fail
      refine (eq_same _ _ (xs ++ ys) _ (by have := vr2'.below hbJ; rw [E2.out] at this; rw [E2.out]; exact this) (vJ2.below hbJ)).mono ?_
      rintro e wK ⟨rfl, hbK⟩
      have hJK := hbJ.trans (hbK.mono hbJ.size)
      go_wp2_with fail
      refine (eq_same _ _ q1 _ (by have := vr3.below hJK; rw [E3.out] at this; rw [E3.out]; exact this) (vr1'.below hJK)).mono ?_
      rintro e wL ⟨rfl, hbL⟩
      have hJL := hJK.trans (hbL.mono hJK.size)
      go_wp2_with fail
      go_ret
      exact ⟨rfl, hfin.trans (hJL.mono hfin.size)⟩
  · go_enter Try.func4, Try.ntmps4
    go_wp2_with (go_at_call 10; refine (bound10_any _ _ _ _ _ _ _ _ hm0 hm1).mono ?_; rintro e w' ⟨rfl, rfl⟩)
    go_ret
    exact ⟨rfl, Below.refl _ _⟩
end Go.Proofs.Qxb6616034a
