/-
  FnNamedSplitAndInsert (3): the walk.
-/
import Derived.Test.Qxb6614700aW2
namespace Go.Proofs.Qxb6614700a
open Go.RowKit

theorem any_app (a b : List (ByteArray × ByteArray)) (name : ByteArray) : anyNamed (a ++ b) name = (anyNamed a name || anyNamed b name) := by unfold anyNamed; rw [List.any_append]
theorem any_one (name addr : ByteArray) : anyNamed [(name, addr)] name = true := by simp [anyNamed]

theorem PView.open {w : World} {ao : Option Addr} {n c : Nat} {ps : List (ByteArray × ByteArray)} (h : PView w (.slice ao n c) ps) :
    n = ps.length ∧ ps.length ≤ c ∧ c ≤ maxLen ∧ (ao = none → c = 0) ∧ (0 < ps.length → ∃ g o, ao = some ⟨g, o, none⟩ ∧ g < w.heap.size ∧ ∀ j u, (cellsOf ps)[j]? = some u → w.cell? ⟨g, o + j, none⟩ = some u) := by
  obtain ⟨ao', c', he, h1, h2, h3, hg⟩ := h
  simp only [Value.slice.injEq] at he
  obtain ⟨rfl, rfl, rfl⟩ := he
  exact ⟨rfl, h1, h2, h3, hg⟩
theorem pv_nil (w : World) : PView w (.slice none 0 0) [] := ⟨none, 0, rfl, Nat.le_refl _, Nat.zero_le _, fun _ => rfl, fun h => absurd h (Nat.lt_irrefl 0)⟩
theorem pv_empty {w : World} {x : Addr} {c : Nat} (hc : c ≤ maxLen) : PView w (.slice (some x) 0 c) [] := ⟨some x, c, rfl, Nat.zero_le _, hc, fun h => absurd h (by simp), fun h => absurd h (Nat.lt_irrefl 0)⟩
theorem pv_take {w : World} {g c n : Nat} {ps : List (ByteArray × ByteArray)} (h : PView w (.slice (some ⟨g, 0, none⟩) n c) ps) (k : Nat) (hk : k ≤ ps.length) : PView w (.slice (some ⟨g, 0, none⟩) k c) (ps.take k) := by
  obtain ⟨_, h1, h2, _, hg⟩ := h.open
  have hl : (ps.take k).length = k := by rw [List.length_take]; omega
  refine ⟨some ⟨g, 0, none⟩, c, by rw [hl], by omega, h2, fun h => absurd h (by simp), fun hp => ?_⟩
  obtain ⟨g', o, he, hgl, hc⟩ := hg (by omega)
  cases he
  refine ⟨g, 0, rfl, hgl, fun j u hj => hc j u ?_⟩
  have hjl := (List.getElem?_eq_some_iff.1 hj).1
  rw [← List.take_append_drop k ps, cellsOf_app, List.getElem?_append_left hjl]
  exact hj
theorem pv_drop {w : World} {g c n : Nat} {ps : List (ByteArray × ByteArray)} (h : PView w (.slice (some ⟨g, 0, none⟩) n c) ps) (k n' c' : Nat) (hk : k < ps.length) (hn' : n' = ps.length - k) (hc' : c' = c - k) : PView w (.slice (some ⟨g, k * 2, none⟩) n' c') (ps.drop k) := by
  subst hn' hc'
  obtain ⟨_, h1, h2, _, hg⟩ := h.open
  have hl : (ps.drop k).length = ps.length - k := List.length_drop
  refine ⟨some ⟨g, k * 2, none⟩, c - k, by rw [hl], by omega, by omega, fun h => absurd h (by simp), fun hp => ?_⟩
  obtain ⟨g', o, he, hgl, hc⟩ := hg (by omega)
  cases he
  refine ⟨g, k * 2, rfl, hgl, fun j u hj => ?_⟩
  have := hc (k * 2 + j) u (by
    rw [← List.take_append_drop k ps, cellsOf_app, List.getElem?_append_right (by rw [cellsOf_length, List.length_take]; omega), cellsOf_length, List.length_take, show k * 2 + j - min k ps.length * 2 = j by rw [Nat.min_eq_left (by omega)]; omega]
    exact hj)
  rw [Nat.zero_add] at this
  exact this
theorem pv_end {w : World} {x : Addr} {m : Nat} {ps : List (ByteArray × ByteArray)} (h : ps.length ≤ m) : PView w (.slice (some x) (ps.length - m) (ps.length - m)) (ps.drop m) := by
  rw [List.drop_eq_nil_of_le h, show ps.length - m = 0 by omega]
  exact pv_empty (Nat.zero_le _)
theorem pv_src {w : World} {ao : Option Addr} {n c : Nat} {ps : List (ByteArray × ByteArray)} (h : PView w (.slice ao n c) ps) :
    (ao = none → n = 0 ∧ c = 0) ∧ ∀ ad, ao = some ad → ∀ j u, (cellsOf ps)[j]? = some u → w.cell? (ad.add j) = some u := by
  obtain ⟨rfl, h1, h2, h3, hg⟩ := h.open
  refine ⟨fun h => ?_, fun ad had j u hj => ?_⟩
  · have := h3 h; omega
  · have hjl := (List.getElem?_eq_some_iff.1 hj).1
    rw [cellsOf_length] at hjl
    obtain ⟨g, o, he, hgl, hc⟩ := hg (by omega)
    rw [had] at he
    cases he
    rw [show (⟨g, o, none⟩ : Addr).add j = ⟨g, o + j, none⟩ from by unfold Addr.add; split <;> simp_all]
    exact hc j u hj
theorem own_pv {w : World} {g n c : Nat} {ps : List (ByteArray × ByteArray)} (h : w.ownsRow 0 29 2 (.slice (some ⟨g, 0, none⟩) n c) n (cellsOf ps)) (hn : ps.length = n) (hc : n ≤ c) (hm : c ≤ maxLen) : PView w (.slice (some ⟨g, 0, none⟩) n c) ps := by
  subst hn
  refine ⟨some ⟨g, 0, none⟩, c, rfl, hc, hm, fun h => absurd h (by simp), fun _ => ⟨g, 0, rfl, (h.lt g rfl).2, fun j u hj => ?_⟩⟩
  have hjl := (List.getElem?_eq_some_iff.1 hj).1
  rw [cellsOf_length] at hjl
  rw [Nat.zero_add, h.cellAt j hjl, hj]

theorem cell_two (w : World) (a b : ByteArray) : ∀ j u, (cellsOf [(a, b)])[j]? = some u → (w.alloc (.cells #[.string a, .string b] 29)).cell? ((⟨w.heap.size, 0, none⟩ : Addr).add j) = some u := by
  intro j u hj
  rw [show (⟨w.heap.size, 0, none⟩ : Addr).add j = ⟨w.heap.size, j, none⟩ from by unfold Addr.add; split <;> simp_all, World.cell?_alloc_new]
  have : (#[Value.string a, Value.string b] : Array Value)[j]? = (cellsOf [(a, b)])[j]? := by simp [cellsOf, pc]
  rw [this, hj]

set_option maxRecDepth 100000 in
set_option maxHeartbeats 4000000 in
theorem split_some (x : Addr) (c : Nat) (ps : List (ByteArray × ByteArray)) (name : ByteArray) (at0 : Int) (addr : ByteArray) (w : World) (hv : PView w (.slice (some x) ps.length c) ps) (h1 : name.size ≤ maxLen) (h2 : addr.size ≤ maxLen) :
    Calls Try.prog 3 #[.slice (some x) ps.length c, .string name, .int .i64 at0, .string addr] w fun e w' => e = .returned (.bool true) ∧ Below w.heap.size w w' := by
  obtain ⟨i0, hi, hz0, hz1, hz2⟩ := info_parts info29
  have hvo := hv.open
  have hg := hvo.2.2.2.2
  have h4 := hvo.2.2.1
  have h3 := hvo.2.1
  have h1' := h1
  have h2' := h2
  unfold maxLen at h1' h2' h4
  clear hvo
  go_enter Try.func3, Try.ntmps3
  go_wp2_with (go_at_call 5; refine (bound5_any _ _ _ _ _ _ _ hv h1 h2).mono ?_; rintro e w' ⟨⟨b, rfl⟩, rfl⟩; cases b)
  all_goals try (go_ret; exact ⟨rfl, Below.refl _ _⟩)
  have hl : ps.length ≤ 65536 := by omega
  go_loopw [9, 10] (fun t i wr => ∃ (k : Nat) (z : Int), k ≤ ps.length ∧ i = .int .i64 k ∧ t = .int .i64 z ∧ Below w'.heap.size w' wr) (fun _ i _ => ps.length - (intOf i).toNat)
  case atStart => exact ⟨0, _, Nat.zero_le _, rfl, rfl, Below.refl _ _⟩
  case round =>
    obtain ⟨k, z, hk, rfl, rfl, hb⟩ := hrel
    by_cases hlt : k < ps.length
    · obtain ⟨g, o, hx, hgl, hcell⟩ := hg (by omega)
      cases hx
      have hcc := cellsOf_at ps k hlt
      have c0 : wr.cell? ⟨g, o + k * 2, none⟩ = some (.string ps[k].1) := by rw [hb.cell (p := ⟨g, o + k * 2, none⟩) hgl]; exact hcell _ _ hcc.1
      have c1 : wr.cell? ⟨g, o + k * 2 + 1, none⟩ = some (.string ps[k].2) := by rw [hb.cell (p := ⟨g, o + k * 2 + 1, none⟩) hgl]; exact hcell _ _ hcc.2
      generalize ps[k].1 = n0 at *
      generalize ps[k].2 = n1 at *
      clear hcell hcc hg
      go_wp2
      go_quiet (fail)
      go_wp2
      · go_ret
        exact ⟨rfl, below_drewN hb _⟩
      · go_roundw
        case rel => exact ⟨k + 1, _, by omega, by go_num, rfl, below_drewN hb _⟩
        case measure => simp [intOf]; omega
    · by_cases a0 : at0 < 0
      · go_wp2
        go_ret
        exact ⟨rfl, hb⟩
      · by_cases a1 : (ps.length : Int) < at0
        · go_wp2
          go_ret
          exact ⟨rfl, hb⟩
        · obtain ⟨m, rfl⟩ := Int.eq_ofNat_of_zero_le (show 0 ≤ at0 by omega)
          have hm : m ≤ ps.length := by omega
          have hW : anyNamed ps name = (anyNamed (ps.take m) name || anyNamed (ps.drop m) name) := by rw [← any_app, List.take_append_drop]
          cases hL : anyNamed (ps.take m) name
          · have HW : Hid (anyNamed ps name = anyNamed (ps.drop m) name) := by show _ = _; rw [hW, hL, Bool.false_or]
            have HLF : Hid (anyNamed (ps.take m) name = false) := hL
            clear hW hL
            go_wp2_with fail
            refine (peers_some x c ps _ (hv.below hb) hl).mono ?_
            rintro e wA ⟨gc, rfl, vC, hbA⟩
            have hfA := hb.trans (hbA.mono hb.size)
            go_wp2_with fail
            refine (named_any _ ps name _ vC (by omega)).mono ?_
            rintro e wB ⟨rfl, hbB⟩
            rw [HW.out]
            go_wp2_with fail
            have vL0 := pv_take (vC.below hbB) m hm
            refine (named_any _ (ps.take m) name _ vL0 (by rw [List.length_take]; omega)).mono ?_
            rintro e wC ⟨rfl, hbC⟩
            rw [HLF.out]
            by_cases hmm : m < ps.length
            · have vR0 := pv_drop ((vC.below hbB).below hbC) m (ps.length - m) (ps.length - m) hmm rfl rfl
              go_wp2_with fail
              refine (named_any _ (ps.drop m) name _ vR0 (by rw [List.length_drop]; omega)).mono ?_
              rintro e wD ⟨rfl, hbD⟩
              have vL := (vL0.below hbC).below hbD
              have vR := PView.below vR0 hbD
              go_wp2_with (first | (at_make; refine wpList_make_own _ rfl _ _ 26 rfl 0 29 i0 (.agg #[.string ⟨#[]⟩, .string ⟨#[]⟩]) 2 Try.underlying26 hi hz0 hz1 _ _ _ (ps.length + 1) rfl rfl (by omega) (by rw [hz2]; omega) (by unfold maxLen; omega) (Nat.zero_le _) ?_; intro wE hownE hgrowE; have hbE := (Below.refl wD.heap.size wD).grown hgrowE (Nat.le_refl _) (by simp); have sL := pv_src (vL.below hbE)) | (at_builtin; refine wpList_append_fits_any _ rfl (.tmp 86) (.tmp 89) 26 rfl 0 29 i0 2 Try.underlying26 hi hz1 wD.heap.size 0 (ps.length + 1) [] rfl hownE (some ⟨gc, 0, none⟩) m ps.length (cellsOf (ps.take m)) rfl (by rw [cellsOf_length, List.length_take, Nat.min_eq_left hm]) sL.1 sL.2 (cellsOf_one _) (by omega) ?_; intro wF hownF hgrowF; simp only [Nat.zero_add, List.nil_append] at hownF; have hbF := hbE.grown hgrowF hbE.size (by intro k hk; cases hk; exact Nat.le_refl _); have hszF := hbF.size) | (at_builtin; refine wpList_append_fits _ rfl (.tmp 91) (.tmp 95) 26 rfl 0 29 i0 2 Try.underlying26 hi hz1 wD.heap.size m (ps.length + 1) (cellsOf (ps.take m)) rfl (hownF.alloc _) ⟨wF.heap.size, 0, none⟩ 1 1 (cellsOf [(name, addr)]) rfl rfl (cell_two _ _ _) (cellsOf_one _) (by omega) ?_; intro wG hownG hgrowG; have hbG := (hbF.alloc hszF _).grown hgrowG (by simp; omega) (by intro k hk; cases hk; exact Nat.le_refl _); have sR := pv_src (vR.below hbG)) | (at_builtin; refine wpList_append_fits_any _ rfl (.tmp 97) (.tmp 100) 26 rfl 0 29 i0 2 Try.underlying26 hi hz1 wD.heap.size (m + 1) (ps.length + 1) (cellsOf (ps.take m) ++ cellsOf [(name, addr)]) rfl hownG (some ⟨gc, m * 2, none⟩) (ps.length - m) (ps.length - m) (cellsOf (ps.drop m)) rfl (by rw [cellsOf_length, List.length_drop]) sR.1 sR.2 (cellsOf_one _) (by omega) ?_; intro wH hownH hgrowH; have hbH := hbG.grown hgrowH hbG.size (by intro k hk; cases hk; exact Nat.le_refl _)))
              rw [← cellsOf_app, ← cellsOf_app] at hownH
              have hlen : (ps.take m ++ [(name, addr)] ++ ps.drop m).length = m + 1 + (ps.length - m) := by rw [List.length_append, List.length_append, List.length_take, List.length_drop, List.length_singleton]; omega
              have vI := own_pv hownH hlen (by omega) (by unfold maxLen; omega)
              refine (named_any _ _ name _ vI (by rw [hlen]; omega)).mono ?_
              rintro e wJ ⟨rfl, hbJ⟩
              have HI : Hid (anyNamed (ps.take m ++ [(name, addr)] ++ ps.drop m) name = true) := by show _ = _; rw [any_app, any_app, any_one]; simp
              rw [HI.out]
              go_wp2_with fail
              go_ret
              exact ⟨rfl, hfA.trans ((hbB.trans ((hbC.trans ((hbD.trans ((hbH.trans (hbJ.mono hbH.size)).mono hbD.size)).mono hbC.size)).mono hbB.size)).mono hfA.size)⟩
            · obtain rfl : m = ps.length := by omega
              have vR0 : PView wC (.slice (some ⟨gc, 0, none⟩) 0 0) (ps.drop ps.length) := by rw [List.drop_eq_nil_of_le (Nat.le_refl _)]; exact pv_empty (Nat.zero_le _)
              go_wp2_with fail
              refine (named_any _ (ps.drop ps.length) name _ vR0 (by rw [List.length_drop]; omega)).mono ?_
              rintro e wD ⟨rfl, hbD⟩
              have vL := (vL0.below hbC).below hbD
              have vR := PView.below vR0 hbD
              go_wp2_with (first | (at_make; refine wpList_make_own _ rfl _ _ 26 rfl 0 29 i0 (.agg #[.string ⟨#[]⟩, .string ⟨#[]⟩]) 2 Try.underlying26 hi hz0 hz1 _ _ _ (ps.length + 1) rfl rfl (by omega) (by rw [hz2]; omega) (by unfold maxLen; omega) (Nat.zero_le _) ?_; intro wE hownE hgrowE; have hbE := (Below.refl wD.heap.size wD).grown hgrowE (Nat.le_refl _) (by simp); have sL := pv_src (vL.below hbE)) | (at_builtin; refine wpList_append_fits_any _ rfl (.tmp 86) (.tmp 89) 26 rfl 0 29 i0 2 Try.underlying26 hi hz1 wD.heap.size 0 (ps.length + 1) [] rfl hownE (some ⟨gc, 0, none⟩) ps.length ps.length (cellsOf (ps.take ps.length)) rfl (by rw [cellsOf_length, List.length_take, Nat.min_eq_left hm]) sL.1 sL.2 (cellsOf_one _) (by omega) ?_; intro wF hownF hgrowF; simp only [Nat.zero_add, List.nil_append] at hownF; have hbF := hbE.grown hgrowF hbE.size (by intro k hk; cases hk; exact Nat.le_refl _); have hszF := hbF.size) | (at_builtin; refine wpList_append_fits _ rfl (.tmp 91) (.tmp 95) 26 rfl 0 29 i0 2 Try.underlying26 hi hz1 wD.heap.size ps.length (ps.length + 1) (cellsOf (ps.take ps.length)) rfl (hownF.alloc _) ⟨wF.heap.size, 0, none⟩ 1 1 (cellsOf [(name, addr)]) rfl rfl (cell_two _ _ _) (cellsOf_one _) (by omega) ?_; intro wG hownG hgrowG; have hbG := (hbF.alloc hszF _).grown hgrowG (by simp; omega) (by intro k hk; cases hk; exact Nat.le_refl _); have sR := pv_src (vR.below hbG)) | (at_builtin; refine wpList_append_fits_any _ rfl (.tmp 97) (.tmp 100) 26 rfl 0 29 i0 2 Try.underlying26 hi hz1 wD.heap.size (ps.length + 1) (ps.length + 1) (cellsOf (ps.take ps.length) ++ cellsOf [(name, addr)]) rfl hownG (some ⟨gc, 0, none⟩) 0 0 (cellsOf (ps.drop ps.length)) rfl (by rw [cellsOf_length, List.length_drop]; omega) sR.1 sR.2 (cellsOf_one _) (by omega) ?_; intro wH hownH hgrowH; have hbH := hbG.grown hgrowH hbG.size (by intro k hk; cases hk; exact Nat.le_refl _)))
              rw [← cellsOf_app, ← cellsOf_app] at hownH
              have hlen : (ps.take ps.length ++ [(name, addr)] ++ ps.drop ps.length).length = ps.length + 1 + 0 := by rw [List.length_append, List.length_append, List.length_take, List.length_drop, List.length_singleton]; omega
              have vI := own_pv hownH hlen (by omega) (by unfold maxLen; omega)
              refine (named_any _ _ name _ vI (by rw [hlen]; omega)).mono ?_
              rintro e wJ ⟨rfl, hbJ⟩
              have HI : Hid (anyNamed (ps.take ps.length ++ [(name, addr)] ++ ps.drop ps.length) name = true) := by show _ = _; rw [any_app, any_app, any_one]; simp
              rw [HI.out]
              go_wp2_with fail
              go_ret
              exact ⟨rfl, hfA.trans ((hbB.trans ((hbC.trans ((hbD.trans ((hbH.trans (hbJ.mono hbH.size)).mono hbD.size)).mono hbC.size)).mono hbB.size)).mono hfA.size)⟩
          · have HW : Hid (anyNamed ps name = true) := by show _ = _; rw [hW, hL, Bool.true_or]
            have HLF : Hid (anyNamed (ps.take m) name = true) := hL
            clear hW hL
            go_wp2_with fail
            refine (peers_some x c ps _ (hv.below hb) hl).mono ?_
            rintro e wA ⟨gc, rfl, vC, hbA⟩
            have hfA := hb.trans (hbA.mono hb.size)
            go_wp2_with fail
            refine (named_any _ ps name _ vC (by omega)).mono ?_
            rintro e wB ⟨rfl, hbB⟩
            rw [HW.out]
            go_wp2_with fail
            have vL0 := pv_take (vC.below hbB) m hm
            refine (named_any _ (ps.take m) name _ vL0 (by rw [List.length_take]; omega)).mono ?_
            rintro e wC ⟨rfl, hbC⟩
            rw [HLF.out]
            by_cases hmm : m < ps.length
            · have vR0 := pv_drop ((vC.below hbB).below hbC) m (ps.length - m) (ps.length - m) hmm rfl rfl
              go_wp2_with fail
              refine (named_any _ (ps.drop m) name _ vR0 (by rw [List.length_drop]; omega)).mono ?_
              rintro e wD ⟨rfl, hbD⟩
              have vL := (vL0.below hbC).below hbD
              have vR := PView.below vR0 hbD
              go_wp2_with (first | (at_make; refine wpList_make_own _ rfl _ _ 26 rfl 0 29 i0 (.agg #[.string ⟨#[]⟩, .string ⟨#[]⟩]) 2 Try.underlying26 hi hz0 hz1 _ _ _ (ps.length + 1) rfl rfl (by omega) (by rw [hz2]; omega) (by unfold maxLen; omega) (Nat.zero_le _) ?_; intro wE hownE hgrowE; have hbE := (Below.refl wD.heap.size wD).grown hgrowE (Nat.le_refl _) (by simp); have sL := pv_src (vL.below hbE)) | (at_builtin; refine wpList_append_fits_any _ rfl (.tmp 86) (.tmp 89) 26 rfl 0 29 i0 2 Try.underlying26 hi hz1 wD.heap.size 0 (ps.length + 1) [] rfl hownE (some ⟨gc, 0, none⟩) m ps.length (cellsOf (ps.take m)) rfl (by rw [cellsOf_length, List.length_take, Nat.min_eq_left hm]) sL.1 sL.2 (cellsOf_one _) (by omega) ?_; intro wF hownF hgrowF; simp only [Nat.zero_add, List.nil_append] at hownF; have hbF := hbE.grown hgrowF hbE.size (by intro k hk; cases hk; exact Nat.le_refl _); have hszF := hbF.size) | (at_builtin; refine wpList_append_fits _ rfl (.tmp 91) (.tmp 95) 26 rfl 0 29 i0 2 Try.underlying26 hi hz1 wD.heap.size m (ps.length + 1) (cellsOf (ps.take m)) rfl (hownF.alloc _) ⟨wF.heap.size, 0, none⟩ 1 1 (cellsOf [(name, addr)]) rfl rfl (cell_two _ _ _) (cellsOf_one _) (by omega) ?_; intro wG hownG hgrowG; have hbG := (hbF.alloc hszF _).grown hgrowG (by simp; omega) (by intro k hk; cases hk; exact Nat.le_refl _); have sR := pv_src (vR.below hbG)) | (at_builtin; refine wpList_append_fits_any _ rfl (.tmp 97) (.tmp 100) 26 rfl 0 29 i0 2 Try.underlying26 hi hz1 wD.heap.size (m + 1) (ps.length + 1) (cellsOf (ps.take m) ++ cellsOf [(name, addr)]) rfl hownG (some ⟨gc, m * 2, none⟩) (ps.length - m) (ps.length - m) (cellsOf (ps.drop m)) rfl (by rw [cellsOf_length, List.length_drop]) sR.1 sR.2 (cellsOf_one _) (by omega) ?_; intro wH hownH hgrowH; have hbH := hbG.grown hgrowH hbG.size (by intro k hk; cases hk; exact Nat.le_refl _)))
              rw [← cellsOf_app, ← cellsOf_app] at hownH
              have hlen : (ps.take m ++ [(name, addr)] ++ ps.drop m).length = m + 1 + (ps.length - m) := by rw [List.length_append, List.length_append, List.length_take, List.length_drop, List.length_singleton]; omega
              have vI := own_pv hownH hlen (by omega) (by unfold maxLen; omega)
              refine (named_any _ _ name _ vI (by rw [hlen]; omega)).mono ?_
              rintro e wJ ⟨rfl, hbJ⟩
              have HI : Hid (anyNamed (ps.take m ++ [(name, addr)] ++ ps.drop m) name = true) := by show _ = _; rw [any_app, any_app, any_one]; simp
              rw [HI.out]
              go_wp2_with fail
              go_ret
              exact ⟨rfl, hfA.trans ((hbB.trans ((hbC.trans ((hbD.trans ((hbH.trans (hbJ.mono hbH.size)).mono hbD.size)).mono hbC.size)).mono hbB.size)).mono hfA.size)⟩
            · obtain rfl : m = ps.length := by omega
              have vR0 : PView wC (.slice (some ⟨gc, 0, none⟩) 0 0) (ps.drop ps.length) := by rw [List.drop_eq_nil_of_le (Nat.le_refl _)]; exact pv_empty (Nat.zero_le _)
              go_wp2_with fail
              refine (named_any _ (ps.drop ps.length) name _ vR0 (by rw [List.length_drop]; omega)).mono ?_
              rintro e wD ⟨rfl, hbD⟩
              have vL := (vL0.below hbC).below hbD
              have vR := PView.below vR0 hbD
              go_wp2_with (first | (at_make; refine wpList_make_own _ rfl _ _ 26 rfl 0 29 i0 (.agg #[.string ⟨#[]⟩, .string ⟨#[]⟩]) 2 Try.underlying26 hi hz0 hz1 _ _ _ (ps.length + 1) rfl rfl (by omega) (by rw [hz2]; omega) (by unfold maxLen; omega) (Nat.zero_le _) ?_; intro wE hownE hgrowE; have hbE := (Below.refl wD.heap.size wD).grown hgrowE (Nat.le_refl _) (by simp); have sL := pv_src (vL.below hbE)) | (at_builtin; refine wpList_append_fits_any _ rfl (.tmp 86) (.tmp 89) 26 rfl 0 29 i0 2 Try.underlying26 hi hz1 wD.heap.size 0 (ps.length + 1) [] rfl hownE (some ⟨gc, 0, none⟩) ps.length ps.length (cellsOf (ps.take ps.length)) rfl (by rw [cellsOf_length, List.length_take, Nat.min_eq_left hm]) sL.1 sL.2 (cellsOf_one _) (by omega) ?_; intro wF hownF hgrowF; simp only [Nat.zero_add, List.nil_append] at hownF; have hbF := hbE.grown hgrowF hbE.size (by intro k hk; cases hk; exact Nat.le_refl _); have hszF := hbF.size) | (at_builtin; refine wpList_append_fits _ rfl (.tmp 91) (.tmp 95) 26 rfl 0 29 i0 2 Try.underlying26 hi hz1 wD.heap.size ps.length (ps.length + 1) (cellsOf (ps.take ps.length)) rfl (hownF.alloc _) ⟨wF.heap.size, 0, none⟩ 1 1 (cellsOf [(name, addr)]) rfl rfl (cell_two _ _ _) (cellsOf_one _) (by omega) ?_; intro wG hownG hgrowG; have hbG := (hbF.alloc hszF _).grown hgrowG (by simp; omega) (by intro k hk; cases hk; exact Nat.le_refl _); have sR := pv_src (vR.below hbG)) | (at_builtin; refine wpList_append_fits_any _ rfl (.tmp 97) (.tmp 100) 26 rfl 0 29 i0 2 Try.underlying26 hi hz1 wD.heap.size (ps.length + 1) (ps.length + 1) (cellsOf (ps.take ps.length) ++ cellsOf [(name, addr)]) rfl hownG (some ⟨gc, 0, none⟩) 0 0 (cellsOf (ps.drop ps.length)) rfl (by rw [cellsOf_length, List.length_drop]; omega) sR.1 sR.2 (cellsOf_one _) (by omega) ?_; intro wH hownH hgrowH; have hbH := hbG.grown hgrowH hbG.size (by intro k hk; cases hk; exact Nat.le_refl _)))
              rw [← cellsOf_app, ← cellsOf_app] at hownH
              have hlen : (ps.take ps.length ++ [(name, addr)] ++ ps.drop ps.length).length = ps.length + 1 + 0 := by rw [List.length_append, List.length_append, List.length_take, List.length_drop, List.length_singleton]; omega
              have vI := own_pv hownH hlen (by omega) (by unfold maxLen; omega)
              refine (named_any _ _ name _ vI (by rw [hlen]; omega)).mono ?_
              rintro e wJ ⟨rfl, hbJ⟩
              have HI : Hid (anyNamed (ps.take ps.length ++ [(name, addr)] ++ ps.drop ps.length) name = true) := by show _ = _; rw [any_app, any_app, any_one]; simp
              rw [HI.out]
              go_wp2_with fail
              go_ret
              exact ⟨rfl, hfA.trans ((hbB.trans ((hbC.trans ((hbD.trans ((hbH.trans (hbJ.mono hbH.size)).mono hbD.size)).mono hbC.size)).mono hbB.size)).mono hfA.size)⟩

set_option maxRecDepth 100000 in
set_option maxHeartbeats 4000000 in
theorem split_nil (name : ByteArray) (at0 : Int) (addr : ByteArray) (w : World) (h1 : name.size ≤ maxLen) (h2 : addr.size ≤ maxLen) :
    Calls Try.prog 3 #[.slice none 0 0, .string name, .int .i64 at0, .string addr] w fun e w' => e = .returned (.bool true) ∧ Below w.heap.size w w' := by
  obtain ⟨i0, hi, hz0, hz1, hz2⟩ := info_parts info29
  have h1' := h1
  have h2' := h2
  unfold maxLen at h1' h2'
  have hbd := fun (w : World) => bound5_any none 0 [] name at0 addr w (pv_nil w) h1 h2
  have HBD : Hid (∀ w : World, Calls Try.prog 5 #[.slice none 0 0, .string name, .int .i64 at0, .string addr] w fun e w' => SomeBool e ∧ w' = w) := hbd
  clear hbd
  go_enter Try.func3, Try.ntmps3
  go_wp2_with (go_at_call 5; refine (HBD.out _).mono ?_; rintro e w' ⟨⟨b, rfl⟩, rfl⟩; cases b)
  all_goals try (go_ret; exact ⟨rfl, Below.refl _ _⟩)
  refine wp_loop_rounds 1 ?_
  rw [rounds_succ]
  by_cases a0 : at0 < 0
  · go_wp2
    go_ret
    exact ⟨rfl, Below.refl _ _⟩
  · by_cases a1 : 0 < at0
    · go_wp2
      go_ret
      exact ⟨rfl, Below.refl _ _⟩
    · obtain rfl : at0 = 0 := by omega
      go_wp2_with fail
      refine (peers_nil _).mono ?_
      rintro e wA ⟨rfl, hbA⟩
      go_wp2_with fail
      refine (named_any _ [] name _ (pv_nil _) (by simp)).mono ?_
      rintro e wB ⟨rfl, hbB⟩
      rw [show anyNamed [] name = false from rfl]
      go_wp2_with fail
      refine (named_any _ [] name _ (pv_nil _) (by simp)).mono ?_
      rintro e wC ⟨rfl, hbC⟩
      rw [show anyNamed [] name = false from rfl]
      go_wp2_with fail
      refine (named_any _ [] name _ (pv_nil _) (by simp)).mono ?_
      rintro e wD ⟨rfl, hbD⟩
      rw [show anyNamed [] name = false from rfl]
      go_wp2_with (first | (at_make; refine wpList_make_own _ rfl _ _ 26 rfl 0 29 i0 (.agg #[.string ⟨#[]⟩, .string ⟨#[]⟩]) 2 Try.underlying26 hi hz0 hz1 _ _ _ 1 rfl rfl (by omega) (by rw [hz2]; omega) (by unfold maxLen; omega) (Nat.zero_le _) ?_; intro wE hownE hgrowE; have hbE := (Below.refl wD.heap.size wD).grown hgrowE (Nat.le_refl _) (by simp)) | (at_builtin; refine wpList_append_fits_any _ rfl (.tmp 86) (.tmp 89) 26 rfl 0 29 i0 2 Try.underlying26 hi hz1 wD.heap.size 0 1 [] rfl hownE none 0 0 (cellsOf []) rfl rfl (fun _ => ⟨rfl, rfl⟩) (fun _ h => by cases h) (cellsOf_one _) (by omega) ?_; intro wF hownF hgrowF; simp only [Nat.zero_add, List.nil_append] at hownF; have hbF := hbE.grown hgrowF hbE.size (by intro k hk; cases hk; exact Nat.le_refl _); have hszF := hbF.size) | (at_builtin; refine wpList_append_fits _ rfl (.tmp 91) (.tmp 95) 26 rfl 0 29 i0 2 Try.underlying26 hi hz1 wD.heap.size 0 1 (cellsOf []) rfl (hownF.alloc _) ⟨wF.heap.size, 0, none⟩ 1 1 (cellsOf [(name, addr)]) rfl rfl (cell_two _ _ _) (cellsOf_one _) (by omega) ?_; intro wG hownG hgrowG; have hbG := (hbF.alloc hszF _).grown hgrowG (by simp; omega) (by intro k hk; cases hk; exact Nat.le_refl _)) | (at_builtin; refine wpList_append_fits_any _ rfl (.tmp 97) (.tmp 100) 26 rfl 0 29 i0 2 Try.underlying26 hi hz1 wD.heap.size 1 1 (cellsOf [] ++ cellsOf [(name, addr)]) rfl hownG none 0 0 (cellsOf []) rfl rfl (fun _ => ⟨rfl, rfl⟩) (fun _ h => by cases h) (cellsOf_one _) (by omega) ?_; intro wH hownH hgrowH; have hbH := hbG.grown hgrowH hbG.size (by intro k hk; cases hk; exact Nat.le_refl _)))
      have vI : PView wH (.slice (some ⟨wD.heap.size, 0, none⟩) 1 1) [(name, addr)] := own_pv hownH rfl (Nat.le_refl _) (by unfold maxLen; omega)
      refine (named_any _ _ name _ vI (by simp)).mono ?_
      rintro e wJ ⟨rfl, hbJ⟩
      rw [any_one name addr]
      go_wp2_with fail
      go_ret
      exact ⟨rfl, hbA.trans ((hbB.trans ((hbC.trans ((hbD.trans ((hbH.trans (hbJ.mono hbH.size)).mono hbD.size)).mono hbC.size)).mono hbB.size)).mono hbA.size)⟩
end Go.Proofs.Qxb6614700a
