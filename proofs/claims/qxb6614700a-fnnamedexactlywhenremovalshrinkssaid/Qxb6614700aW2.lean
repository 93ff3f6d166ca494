/-
  toPeers (6).
-/
import Derived.Test.Qxb6614700aW1
namespace Go.Proofs.Qxb6614700a
open Go.RowKit

theorem info29 : (Try.prog.info? 29).map (fun i => (i.zero, i.size, i.bytes)) = some (some (.agg #[.string ⟨#[]⟩, .string ⟨#[]⟩]), 2, 32) := by kernel_rfl

/-- A row of n peers at block g that may be written, whose first ones are qs. -/
def PFill (w : World) (g n : Nat) (qs : List (ByteArray × ByteArray)) : Prop :=
  ∃ cs : List Value, cs.length = n * 2 ∧ (∀ j, j < cs.length → w.cell? ⟨g, j, none⟩ = cs[j]? ∧ w.frozen? ⟨g, j, none⟩ = false) ∧ cs.take (qs.length * 2) = cellsOf qs

theorem PFill.cell {w : World} {g n : Nat} {qs : List (ByteArray × ByteArray)} (h : PFill w g n qs) (j : Nat) (hj : j < n * 2) : (∃ u, w.cell? ⟨g, j, none⟩ = some u) ∧ w.frozen? ⟨g, j, none⟩ = false := by
  obtain ⟨cs, hl, hc, _⟩ := h
  have := hc j (by omega)
  exact ⟨⟨cs[j]'(by omega), by rw [this.1, List.getElem?_eq_getElem (by omega)]⟩, this.2⟩
theorem cells_set {w : World} {g : Nat} {cs : List Value} (h : ∀ j, j < cs.length → w.cell? ⟨g, j, none⟩ = cs[j]? ∧ w.frozen? ⟨g, j, none⟩ = false) (k : Nat) (v : Value) :
    ∀ j, j < (cs.set k v).length → (w.setCell ⟨g, k, none⟩ v).cell? ⟨g, j, none⟩ = (cs.set k v)[j]? ∧ (w.setCell ⟨g, k, none⟩ v).frozen? ⟨g, j, none⟩ = false := by
  intro j hj
  rw [List.length_set] at hj
  refine ⟨?_, by rw [World.frozen?_setCell]; exact (h j hj).2⟩
  by_cases e : k = j
  · subst e
    have := (h k hj).1
    rw [List.getElem?_eq_getElem hj] at this
    rw [World.cell?_setCell_same _ _ _ this]
    simp [hj]
  · rw [World.cell?_setCell_other _ _ _ _ (by simp), (h j hj).1]
    simp [e]
theorem PFill.put {w : World} {g n : Nat} {qs : List (ByteArray × ByteArray)} (h : PFill w g n qs) (hn : qs.length < n) (k : Nat) (hk : k = qs.length) (p : ByteArray × ByteArray) :
    PFill ((w.setCell ⟨g, k * 2, none⟩ (.string p.1)).setCell ⟨g, k * 2 + 1, none⟩ (.string p.2)) g n (qs ++ [p]) := by
  subst hk
  obtain ⟨cs, hl, hc, ht⟩ := h
  have s1 := cells_set hc (qs.length * 2) (.string p.1)
  have s2 := cells_set s1 (qs.length * 2 + 1) (.string p.2)
  refine ⟨_, by rw [List.length_set, List.length_set]; exact hl, s2, ?_⟩
  rw [cellsOf_app, ← ht, List.length_append, List.length_singleton, show (qs.length + 1) * 2 = qs.length * 2 + 1 + 1 by omega]
  rw [List.take_succ_eq_append_getElem (by rw [List.length_set, List.length_set]; omega), List.take_succ_eq_append_getElem (by rw [List.length_set, List.length_set]; omega)]
  rw [List.take_set_of_le (by omega), List.take_set_of_le (by omega)]
  simp [cellsOf, pc]
theorem PFill.full {w : World} {g n : Nat} {qs : List (ByteArray × ByteArray)} (h : PFill w g n qs) (hn : qs.length = n) (hm : n ≤ maxLen) (hg : g < w.heap.size) : PView w (.slice (some ⟨g, 0, none⟩) n n) qs := by
  subst hn
  obtain ⟨cs, hl, hc, ht⟩ := h
  refine ⟨some ⟨g, 0, none⟩, qs.length, rfl, Nat.le_refl _, hm, fun h => absurd h (by simp), fun _ => ⟨g, 0, rfl, hg, fun j u hj => ?_⟩⟩
  have hjl := (List.getElem?_eq_some_iff.1 hj).1
  rw [cellsOf_length] at hjl
  have e : cs = cellsOf qs := by rw [← ht, List.take_of_length_le (by omega)]
  rw [Nat.zero_add, (hc j (by omega)).1, e, hj]
theorem PFill.start {w : World} {g n : Nat} {xs : List Value} (h : w.ownsRow 0 29 2 (.slice (some ⟨g, 0, none⟩) n n) n xs) : PFill w g n [] :=
  ⟨xs, h.1, fun j hj => ⟨h.cellAt j (by rw [h.1] at hj; exact hj), h.frozenAt j⟩, by simp [cellsOf]⟩

set_option maxRecDepth 100000 in
set_option maxHeartbeats 1000000 in
theorem peers_some (x : Addr) (c : Nat) (ps : List (ByteArray × ByteArray)) (w : World) (hv : PView w (.slice (some x) ps.length c) ps) (hm : ps.length ≤ 65536) :
    Calls Try.prog 6 #[.slice (some x) ps.length c] w fun e w' => ∃ g, e = .returned (.slice (some ⟨g, 0, none⟩) ps.length ps.length) ∧ PView w' (.slice (some ⟨g, 0, none⟩) ps.length ps.length) ps ∧ Below w.heap.size w w' := by
  have heql := fun (w : World) (a : Option Addr) (l c : Nat) => Lib.run_eql_slice_nil (P := Try.prog) w 22 25 a l c 0 0 Try.underlying22
  obtain ⟨i0, hi, hz0, hz1, hz2⟩ := info_parts info29
  obtain ⟨ao', c', he, h3, h4, h5, hg⟩ := hv
  simp only [Value.slice.injEq, true_and] at he
  obtain ⟨rfl, rfl⟩ := he
  go_enter Try.func6, Try.ntmps6
  go_wp2_with (at_make; refine wpList_make_full _ rfl _ _ 26 rfl 0 29 i0 (.agg #[.string ⟨#[]⟩, .string ⟨#[]⟩]) 2 Try.underlying26 hi hz0 hz1 _ _ _ _ ps.length rfl rfl (by omega) (by omega) (by rw [hz2]; omega) (by unfold maxLen; omega) (Nat.zero_le _) ?_; intro wm hown hgrow)
  have hbm : Below w.heap.size w wm := (Below.refl _ _).grown hgrow (Nat.le_refl _) (by simp)
  have hF0 : PFill wm w.heap.size ps.length [] := PFill.start hown
  have hgm : w.heap.size < wm.heap.size := (hown.lt w.heap.size rfl).2
  clear hown hgrow
  go_loopw [4] (fun i wr => ∃ k : Nat, k ≤ ps.length ∧ i = .int .i64 k ∧ PFill wr w.heap.size ps.length (ps.take k) ∧ w.heap.size < wr.heap.size ∧ Below w.heap.size w wr) (fun i _ => ps.length - (intOf i).toNat)
  case atStart => exact ⟨0, Nat.zero_le _, rfl, hF0, hgm, hbm⟩
  case round =>
    obtain ⟨k, hk, rfl, hF, hgr, hb⟩ := hrel
    by_cases hlt : k < ps.length
    · obtain ⟨g, o, hx, hgl, hcell⟩ := hg (by omega)
      cases hx
      have hcc := cellsOf_at ps k hlt
      have c0 : wr.cell? ⟨g, o + k * 2, none⟩ = some (.string ps[k].1) := by rw [hb.cell (p := ⟨g, o + k * 2, none⟩) hgl]; exact hcell _ _ hcc.1
      have c1 : wr.cell? ⟨g, o + k * 2 + 1, none⟩ = some (.string ps[k].2) := by rw [hb.cell (p := ⟨g, o + k * 2 + 1, none⟩) hgl]; exact hcell _ _ hcc.2
      obtain ⟨⟨u0, d0⟩, f0⟩ := hF.cell (k * 2) (by omega)
      obtain ⟨⟨u1, d1⟩, f1⟩ := hF.cell (k * 2 + 1) (by omega)
      have hN := hF.put (by rw [List.length_take]; omega) k (by rw [List.length_take]; omega) ps[k]
      rw [← List.take_succ_eq_append_getElem hlt] at hN
      clear hcell hcc
      go_wp2
      go_roundw
      case rel => exact ⟨k + 1, by omega, by go_num, hN, by simpa using hgr, (hb.setCell (Nat.le_refl _) _).setCell (Nat.le_refl _) _⟩
      case measure => simp [intOf]; omega
    · obtain rfl : k = ps.length := by omega
      rw [List.take_of_length_le (Nat.le_refl _)] at hF
      go_wp2
      go_ret
      exact ⟨_, rfl, hF.full rfl (by unfold maxLen; omega) hgr, hb⟩

set_option maxHeartbeats 1000000 in
theorem peers_nil (w : World) :
    Calls Try.prog 6 #[.slice none 0 0] w fun e w' => e = .returned (.slice none 0 0) ∧ Below w.heap.size w w' := by
  have heql := fun (w : World) (a : Option Addr) (l c : Nat) => Lib.run_eql_slice_nil (P := Try.prog) w 22 25 a l c 0 0 Try.underlying22
  go_enter Try.func6, Try.ntmps6
  go_wp2
  go_ret
  exact ⟨rfl, Below.refl _ _⟩
end Go.Proofs.Qxb6614700a
