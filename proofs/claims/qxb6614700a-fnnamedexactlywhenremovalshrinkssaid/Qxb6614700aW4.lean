/-
  FnNamedExactlyWhenRemovalShrinks (4): the plain law, the walk.
-/
import Derived.Test.Qxb6614700aW3
namespace Go.Proofs.Qxb6614700a
open Go.RowKit

/-- The peers of another name. -/
def others (ps : List (ByteArray × ByteArray)) (name : ByteArray) : List (ByteArray × ByteArray) := ps.filter fun p => !(p.1.toList == name.toList)
theorem others_le (ps : List (ByteArray × ByteArray)) (name : ByteArray) : (others ps name).length ≤ ps.length := List.length_filter_le _ _
theorem others_keep {ps : List (ByteArray × ByteArray)} {name : ByteArray} {k : Nat} (h : k < ps.length) (h1 : (ps[k].1.toList == name.toList) = false) : others (ps.take (k + 1)) name = others (ps.take k) name ++ [ps[k]] := by
  unfold others; rw [List.take_succ_eq_append_getElem h, List.filter_append]; simp [h1]
theorem others_drop {ps : List (ByteArray × ByteArray)} {name : ByteArray} {k : Nat} (h : k < ps.length) (h1 : (ps[k].1.toList == name.toList) = true) : others (ps.take (k + 1)) name = others (ps.take k) name := by
  unfold others; rw [List.take_succ_eq_append_getElem h, List.filter_append]; simp [h1]
theorem others_gone (ps : List (ByteArray × ByteArray)) (name : ByteArray) : anyNamed (others ps name) name = false := by
  unfold anyNamed others
  rw [List.any_filter]
  rw [List.any_eq_false]
  intro p _
  cases (p.1.toList == name.toList) <;> simp
theorem others_less (ps : List (ByteArray × ByteArray)) (name : ByteArray) (h : anyNamed ps name = true) : (others ps name).length < ps.length := by
  induction ps with
  | nil => cases h
  | cons p ps ih =>
    have hle := others_le ps name
    cases hp : (p.1.toList == name.toList)
    · have h' : anyNamed ps name = true := by simpa [anyNamed, hp] using h
      have h2 := ih h'
      have e : others (p :: ps) name = p :: others ps name := by simp [others, hp]
      rw [e, List.length_cons, List.length_cons]; omega
    · have e : others (p :: ps) name = others ps name := by simp [others, hp]
      rw [e, List.length_cons]; omega
theorem others_all (ps : List (ByteArray × ByteArray)) (name : ByteArray) (h : anyNamed ps name = false) : others ps name = ps := by
  unfold others anyNamed at *
  rw [List.filter_eq_self]
  intro p hp
  rw [List.any_eq_false] at h
  have := h p hp
  simpa using this
theorem others_other (ps : List (ByteArray × ByteArray)) (name other : ByteArray) (h : (other.toList == name.toList) = false) : anyNamed (others ps name) other = anyNamed ps other := by
  unfold anyNamed others
  rw [List.any_filter]
  congr 1
  funext p
  cases hp : (p.1.toList == other.toList)
  · simp
  · have e : p.1.toList = other.toList := by simpa using hp
    rw [e, h]; rfl

theorem own_step {w : World} {g n : Nat} {F : List (ByteArray × ByteArray)} {p : ByteArray × ByteArray} (h : w.ownsRow 0 29 2 (.slice (some ⟨g, 0, none⟩) (F.length + 1) n) (F.length + 1) (cellsOf F ++ cellsOf [(p.1, p.2)])) :
    w.ownsRow 0 29 2 (.slice (some ⟨g, 0, none⟩) (F ++ [p]).length n) (F ++ [p]).length (cellsOf (F ++ [p])) := by
  rw [List.length_append, List.length_singleton, cellsOf_app]; exact h

set_option maxRecDepth 100000 in
set_option maxHeartbeats 4000000 in
theorem shrink_some (x : Addr) (c : Nat) (ps : List (ByteArray × ByteArray)) (name other : ByteArray) (w : World) (hv : PView w (.slice (some x) ps.length c) ps) (h1 : name.size ≤ maxLen) (h2 : other.size ≤ maxLen) :
    Calls Try.prog 4 #[.slice (some x) ps.length c, .string name, .string other] w fun e w' => e = .returned (.bool true) ∧ Below w.heap.size w w' := by
  obtain ⟨i0, hi, hz0, hz1, hz2⟩ := info_parts info29
  have hvo := hv.open
  have hg := hvo.2.2.2.2
  have h4 := hvo.2.2.1
  have h3 := hvo.2.1
  have h1' := h1
  have h2' := h2
  unfold maxLen at h1' h2' h4
  clear hvo
  go_enter Try.func4, Try.ntmps4
  go_wp2_with (go_at_call 8; refine (bound8_any _ _ _ _ _ _ hv h1 h2).mono ?_; rintro e w' ⟨⟨b, rfl⟩, rfl⟩; cases b)
  all_goals try (go_ret; exact ⟨rfl, Below.refl _ _⟩)
  have hl : ps.length ≤ 65536 := by omega
  go_loopw [7, 8] (fun t i wr => ∃ (k : Nat) (z : Int), k ≤ ps.length ∧ i = .int .i64 k ∧ t = .int .i64 z ∧ Below w'.heap.size w' wr) (fun _ i _ => ps.length - (intOf i).toNat)
  case atStart => exact ⟨0, _, Nat.zero_le _, rfl, rfl, Below.refl _ _⟩
  case round =>
    obtain ⟨k, z, hk, rfl, rfl, hb⟩ := hrel
    by_cases hlt : k < ps.length
    · obtain ⟨g, o, hx, hgl, hcell⟩ := hg (by omega)
      cases hx
      have hcc := cellsOf_at ps k hlt
      have c0 : wr.cell? ⟨g, o + k * 2, none⟩ = some (.string ps[k].1) := by rw [hb.cell (p := ⟨g, o + k * 2, none⟩) hgl]; exact hcell _ _ hcc.1
      have c1 : wr.cell? ⟨g, o + k * 2 + 1, none⟩ = some (.string ps[k].2) := by rw [hb.cell (p := ⟨g, o + k * 2 + 1, none⟩) hgl]; exact hcell _ _ hcc.2
      generalize ps[k].1 = n0 at *
      generalize ps[k].2 = n1 at *
      clear hcell hcc hg
      go_wp2
      go_quiet (fail)
      go_wp2
      · go_ret
        exact ⟨rfl, below_drewN hb _⟩
      · go_roundw
        case rel => exact ⟨k + 1, _, by omega, by go_num, rfl, below_drewN hb _⟩
        case measure => simp [intOf]; omega
    · go_wp2_with fail
      refine (peers_some x c ps _ (hv.below hb) hl).mono ?_
      rintro e wA ⟨gc, rfl, vC, hbA⟩
      have hfA := hb.trans (hbA.mono hb.size)
      obtain ⟨_, _, _, _, hgc⟩ := vC.open
      go_wp2_with (at_make; refine wpList_make_own _ rfl _ _ 26 rfl 0 29 i0 (.agg #[.string ⟨#[]⟩, .string ⟨#[]⟩]) 2 Try.underlying26 hi hz0 hz1 _ _ _ ps.length rfl rfl (by omega) (by rw [hz2]; omega) (by unfold maxLen; omega) (Nat.zero_le _) ?_; intro wE hownE hgrowE)
      have hbE := (Below.refl wA.heap.size wA).grown hgrowE (Nat.le_refl _) (by simp)
      clear hgrowE
      go_loopw [10, 11] (fun v i wq => ∃ k : Nat, k ≤ ps.length ∧ i = .int .i64 k ∧ v = .slice (some ⟨wA.heap.size, 0, none⟩) (others (ps.take k) name).length ps.length ∧ wq.ownsRow 0 29 2 (.slice (some ⟨wA.heap.size, 0, none⟩) (others (ps.take k) name).length ps.length) (others (ps.take k) name).length (cellsOf (others (ps.take k) name)) ∧ Below wA.heap.size wA wq) (fun _ i _ => ps.length - (intOf i).toNat)
      case atStart => exact ⟨0, Nat.zero_le _, rfl, rfl, hownE, hbE⟩
      case round =>
        obtain ⟨k2, hk2, rfl, rfl, hown2, hb2⟩ := hrel
        have hq2 := others_le (ps.take k2) name
        rw [List.length_take] at hq2
        by_cases hlt2 : k2 < ps.length
        · obtain ⟨g, o, hx, hgl, hcell⟩ := hgc (by omega)
          cases hx
          have hcc := cellsOf_at ps k2 hlt2
          have c0 : wr.cell? ⟨gc, 0 + k2 * 2, none⟩ = some (.string ps[k2].1) := by rw [hb2.cell (p := ⟨gc, 0 + k2 * 2, none⟩) hgl]; exact hcell _ _ hcc.1
          have c1 : wr.cell? ⟨gc, 0 + k2 * 2 + 1, none⟩ = some (.string ps[k2].2) := by rw [hb2.cell (p := ⟨gc, 0 + k2 * 2 + 1, none⟩) hgl]; exact hcell _ _ hcc.2
          rw [Nat.zero_add] at c0 c1
          have hsz := hb2.size
          clear hcell hcc hgc
          cases hnm : (ps[k2].1.toList == name.toList)
          · have HS : Hid (others (ps.take (k2 + 1)) name = others (ps.take k2) name ++ [ps[k2]]) := others_keep hlt2 hnm
            generalize others (ps.take k2) name = F at *
            generalize ps[k2] = pk at *
            go_wp2_with (at_builtin; refine wpList_append_fits _ rfl (.tmp 73) (.tmp 78) 26 rfl 0 29 i0 2 Try.underlying26 hi hz1 wA.heap.size F.length ps.length (cellsOf F) rfl (hown2.alloc _) ⟨wr.heap.size, 0, none⟩ 1 1 (cellsOf [(pk.1, pk.2)]) rfl rfl (cell_two _ _ _) (cellsOf_one _) (by omega) ?_; intro wG hownG hgrowG; have hbG := (hb2.alloc hsz _).grown hgrowG (by simp; omega) (by intro k hk; cases hk; exact Nat.le_refl _))
            go_roundw
            case rel => exact ⟨k2 + 1, by omega, by go_num, by rw [HS.out]; simp, by rw [HS.out]; exact own_step hownG, hbG⟩
            case measure => simp [intOf]; omega
          · have HS : Hid (others (ps.take (k2 + 1)) name = others (ps.take k2) name) := others_drop hlt2 hnm
            go_wp2
            go_roundw
            case rel => exact ⟨k2 + 1, by omega, by go_num, by rw [HS.out], by rw [HS.out]; exact hown2, hb2⟩
            case measure => simp [intOf]; omega
        · obtain rfl : k2 = ps.length := by omega
          rw [List.take_of_length_le (Nat.le_refl _)] at hown2 hq2 ⊢
          have vR := own_pv hown2 rfl (by omega) (by unfold maxLen; omega)
          have vC2 := vC.below hb2
          have HG : Hid (anyNamed (others ps name) name = false) := others_gone ps name
          cases hO : (other.toList == name.toList)
          · have HO : Hid (anyNamed (others ps name) other = anyNamed ps other) := others_other ps name other hO
            cases hA : anyNamed ps name
            · have HA : Hid (anyNamed ps name = false) := hA
              have hge : ps.length ≤ (others ps name).length := by rw [others_all ps name hA]; exact Nat.le_refl _
              clear hA hgc
              generalize others ps name = F at *
              go_wp2_with fail
              refine (named_any _ F name _ vR (by omega)).mono ?_
              rintro e wH ⟨rfl, hbH⟩
              rw [HG.out]
              go_wp2_with fail
              refine (named_any _ ps name _ (vC2.below hbH) (by omega)).mono ?_
              rintro e wI ⟨rfl, hbI⟩
              rw [HA.out]
              have hHI := hbH.trans (hbI.mono hbH.size)
              go_wp2_with fail
              refine (named_any _ F other _ (vR.below hHI) (by omega)).mono ?_
              rintro e wJ ⟨rfl, hbJ⟩
              have hHJ := hHI.trans (hbJ.mono hHI.size)
              rw [HO.out]
              go_wp2_with fail
              refine (named_any _ ps other _ (vC2.below hHJ) (by omega)).mono ?_
              rintro e wK ⟨rfl, hbK⟩
              have hHK := hHJ.trans (hbK.mono hHJ.size)
              go_wp2
              go_ret
              exact ⟨ret_bool (by simp), hfA.trans ((hb2.trans (hHK.mono hb2.size)).mono hfA.size)⟩
            · have HA : Hid (anyNamed ps name = true) := hA
              have hge : (others ps name).length < ps.length := others_less ps name hA
              clear hA hgc
              generalize others ps name = F at *
              go_wp2_with fail
              refine (named_any _ F name _ vR (by omega)).mono ?_
              rintro e wH ⟨rfl, hbH⟩
              rw [HG.out]
              go_wp2_with fail
              refine (named_any _ ps name _ (vC2.below hbH) (by omega)).mono ?_
              rintro e wI ⟨rfl, hbI⟩
              rw [HA.out]
              have hHI := hbH.trans (hbI.mono hbH.size)
              go_wp2_with fail
              refine (named_any _ F other _ (vR.below hHI) (by omega)).mono ?_
              rintro e wJ ⟨rfl, hbJ⟩
              have hHJ := hHI.trans (hbJ.mono hHI.size)
              rw [HO.out]
              go_wp2_with fail
              refine (named_any _ ps other _ (vC2.below hHJ) (by omega)).mono ?_
              rintro e wK ⟨rfl, hbK⟩
              have hHK := hHJ.trans (hbK.mono hHJ.size)
              go_wp2
              go_ret
              exact ⟨ret_bool (by simp), hfA.trans ((hb2.trans (hHK.mono hb2.size)).mono hfA.size)⟩
          · cases hA : anyNamed ps name
            · have HA : Hid (anyNamed ps name = false) := hA
              have hge : ps.length ≤ (others ps name).length := by rw [others_all ps name hA]; exact Nat.le_refl _
              clear hA hgc
              generalize others ps name = F at *
              go_wp2_with fail
              refine (named_any _ F name _ vR (by omega)).mono ?_
              rintro e wH ⟨rfl, hbH⟩
              rw [HG.out]
              go_wp2_with fail
              refine (named_any _ ps name _ (vC2.below hbH) (by omega)).mono ?_
              rintro e wI ⟨rfl, hbI⟩
              rw [HA.out]
              have hHI := hbH.trans (hbI.mono hbH.size)
              go_wp2
              go_ret
              exact ⟨rfl, hfA.trans ((hb2.trans (hHI.mono hb2.size)).mono hfA.size)⟩
            · have HA : Hid (anyNamed ps name = true) := hA
              have hge : (others ps name).length < ps.length := others_less ps name hA
              clear hA hgc
              generalize others ps name = F at *
              go_wp2_with fail
              refine (named_any _ F name _ vR (by omega)).mono ?_
              rintro e wH ⟨rfl, hbH⟩
              rw [HG.out]
              go_wp2_with fail
              refine (named_any _ ps name _ (vC2.below hbH) (by omega)).mono ?_
              rintro e wI ⟨rfl, hbI⟩
              rw [HA.out]
              have hHI := hbH.trans (hbI.mono hbH.size)
              go_wp2
              go_ret
              exact ⟨rfl, hfA.trans ((hb2.trans (hHI.mono hb2.size)).mono hfA.size)⟩

set_option maxRecDepth 100000 in
set_option maxHeartbeats 4000000 in
theorem shrink_nil (name other : ByteArray) (w : World) (h1 : name.size ≤ maxLen) (h2 : other.size ≤ maxLen) :
    Calls Try.prog 4 #[.slice none 0 0, .string name, .string other] w fun e w' => e = .returned (.bool true) ∧ Below w.heap.size w w' := by
  obtain ⟨i0, hi, hz0, hz1, hz2⟩ := info_parts info29
  have h1' := h1
  have h2' := h2
  unfold maxLen at h1' h2'
  have hbd := fun (w : World) => bound8_any none 0 [] name other w (pv_nil w) h1 h2
  have HBD : Hid (∀ w : World, Calls Try.prog 8 #[.slice none 0 0, .string name, .string other] w fun e w' => SomeBool e ∧ w' = w) := hbd
  clear hbd
  cases hO : (other.toList == name.toList)
  all_goals
    go_enter Try.func4, Try.ntmps4
    go_wp2_with (go_at_call 8; refine (HBD.out _).mono ?_; rintro e w' ⟨⟨b, rfl⟩, rfl⟩; cases b)
    all_goals try (go_ret; exact ⟨rfl, Below.refl _ _⟩)
  all_goals
    refine wp_loop_rounds 1 ?_
    rw [rounds_succ]
    go_wp2_with fail
    refine (peers_nil _).mono ?_
    rintro e wA ⟨rfl, hbA⟩
    go_wp2_with (at_make; refine wpList_make_own _ rfl _ _ 26 rfl 0 29 i0 (.agg #[.string ⟨#[]⟩, .string ⟨#[]⟩]) 2 Try.underlying26 hi hz0 hz1 _ _ _ 0 rfl rfl (by omega) (by rw [hz2]; omega) (by unfold maxLen; omega) (Nat.zero_le _) ?_; intro wE hownE hgrowE; have hbE := (Below.refl wA.heap.size wA).grown hgrowE (Nat.le_refl _) (by simp))
    refine wp_loop_rounds 1 ?_
    rw [rounds_succ]
    go_wp2_with fail
    refine (named_any _ [] name _ (pv_empty (Nat.zero_le _)) (by simp)).mono ?_
    rintro e wH ⟨rfl, hbH⟩
    rw [show anyNamed [] name = false from rfl]
    go_wp2_with fail
    refine (named_any _ [] name _ (pv_nil _) (by simp)).mono ?_
    rintro e wI ⟨rfl, hbI⟩
    rw [show anyNamed [] name = false from rfl]
    have hEI := hbE.trans ((hbH.trans (hbI.mono hbH.size)).mono hbE.size)
  · go_wp2_with fail
    refine (named_any _ [] other _ (pv_empty (Nat.zero_le _)) (by simp)).mono ?_
    rintro e wJ ⟨rfl, hbJ⟩
    rw [show anyNamed [] other = false from rfl]
    go_wp2_with fail
    refine (named_any _ [] other _ (pv_nil _) (by simp)).mono ?_
    rintro e wK ⟨rfl, hbK⟩
    rw [show anyNamed [] other = false from rfl]
    go_wp2
    go_ret
    exact ⟨rfl, hbA.trans ((hEI.trans ((hbJ.trans (hbK.mono hbJ.size)).mono hEI.size)).mono hbA.size)⟩
  · go_wp2
    go_ret
    exact ⟨rfl, hbA.trans (hEI.mono hbA.size)⟩
end Go.Proofs.Qxb6614700a
