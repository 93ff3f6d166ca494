/-
  The leaf walks: what a slice of peers shows ('PView'); the closure (11), slices.IndexFunc (12), ContainsFunc (10), named (9, 7).
-/
import Derived.Test.Qxb6614700aRows
import Derived.WalkKit
import Derived.WalkSpells
import Derived.WalkLawsBesides
import Derived.Deep.QuietTactic
import Derived.BigQuiet
namespace Go.Proofs.Qxb6614700a
open Go.RowKit

theorem ret_bool {a b : Bool} (h : a = b) : Ending.returned (.bool a) = .returned (.bool b) := by rw [h]
theorem ret_int {k : IntKind} {a b : Int} (h : a = b) : Ending.returned (.int k a) = .returned (.int k b) := by rw [h]

/-- A peer's two cells. -/
def pc (p : ByteArray × ByteArray) : List Value := [.string p.1, .string p.2]
/-- The cells of a row of peers. -/
def cellsOf (ps : List (ByteArray × ByteArray)) : List Value := ps.flatMap pc
theorem cellsOf_cons (p : ByteArray × ByteArray) (ps : List (ByteArray × ByteArray)) : cellsOf (p :: ps) = .string p.1 :: .string p.2 :: cellsOf ps := rfl
theorem cellsOf_app (a b : List (ByteArray × ByteArray)) : cellsOf (a ++ b) = cellsOf a ++ cellsOf b := by unfold cellsOf; rw [List.flatMap_append]
theorem cellsOf_length (ps : List (ByteArray × ByteArray)) : (cellsOf ps).length = ps.length * 2 := by
  induction ps with
  | nil => rfl
  | cons p ps ih => rw [cellsOf_cons, List.length_cons, List.length_cons, ih, List.length_cons]; omega
theorem cellsOf_at : ∀ (ps : List (ByteArray × ByteArray)) (i : Nat) (h : i < ps.length), (cellsOf ps)[i * 2]? = some (.string ps[i].1) ∧ (cellsOf ps)[i * 2 + 1]? = some (.string ps[i].2) := by
  intro ps
  induction ps with
  | nil => intro i h; cases h
  | cons p ps ih =>
    intro i h
    cases i with
    | zero => exact ⟨rfl, rfl⟩
    | succ i =>
      have := ih i (by simpa using h)
      rw [cellsOf_cons, show (i + 1) * 2 = i * 2 + 2 by omega, show i * 2 + 2 + 1 = (i * 2 + 1) + 2 by omega]
      exact this
theorem cellsOf_one (ps : List (ByteArray × ByteArray)) : ∀ u ∈ cellsOf ps, u.oneCell' = true := by
  intro u hu
  unfold cellsOf at hu
  rw [List.mem_flatMap] at hu
  obtain ⟨p, _, hp⟩ := hu
  simp only [pc, List.mem_cons, List.not_mem_nil, or_false] at hp
  rcases hp with rfl | rfl <;> rfl

/-- What a slice of peers shows. -/
def PView (w : World) (v : Value) (ps : List (ByteArray × ByteArray)) : Prop :=
  ∃ ao c, v = .slice ao ps.length c ∧ ps.length ≤ c ∧ c ≤ maxLen ∧ (ao = none → c = 0) ∧
    (0 < ps.length → ∃ g o, ao = some ⟨g, o, none⟩ ∧ g < w.heap.size ∧ ∀ j u, (cellsOf ps)[j]? = some u → w.cell? ⟨g, o + j, none⟩ = some u)
theorem PView.below {w w' : World} {v : Value} {ps : List (ByteArray × ByteArray)} (h : PView w v ps) (hb : Below w.heap.size w w') : PView w' v ps := by
  obtain ⟨ao, c, he, h1, h2, h3, hg⟩ := h
  refine ⟨ao, c, he, h1, h2, h3, fun hp => ?_⟩
  obtain ⟨g, o, ha, hgl, hc⟩ := hg hp
  exact ⟨g, o, ha, Nat.lt_of_lt_of_le hgl hb.size, fun j u hj => by rw [hb.cell (p := ⟨g, o + j, none⟩) hgl]; exact hc j u hj⟩

/-- It returned a bool. -/
def SomeBool (e : Ending) : Prop := ∃ b, e = .returned (.bool b)
theorem someBool (b : Bool) : SomeBool (.returned (.bool b)) := ⟨b, rfl⟩
/-- Is there a peer of that name? -/
def anyNamed (ps : List (ByteArray × ByteArray)) (name : ByteArray) : Bool := ps.any fun p => p.1.toList == name.toList

set_option maxHeartbeats 1000000 in
theorem clo_any (s1 s2 name : ByteArray) (nb : Nat) (w : World) (hn : nb < w.heap.size) (hc : w.cell? ⟨nb, 0, none⟩ = some (.string name)) :
    Calls Try.prog 11 #[.agg #[.string s1, .string s2], .pointer (some ⟨nb, 0, none⟩)] w fun e w' => e = .returned (.bool (s1.toList == name.toList)) ∧ Below w.heap.size w w' := by
  go_enter Try.func11, Try.ntmps11
  go_wp2
  go_ret
  exact ⟨rfl, (Below.refl _ _).alloc (Nat.le_refl _) _⟩

theorem any_take_step {ps : List (ByteArray × ByteArray)} {name : ByteArray} {k : Nat} (h : k < ps.length) (h0 : anyNamed (ps.take k) name = false) (h1 : (ps[k].1.toList == name.toList) = false) : anyNamed (ps.take (k + 1)) name = false := by
  unfold anyNamed at *
  rw [List.take_succ_eq_append_getElem h, List.any_append, h0]
  simp [h1]
theorem any_hit {ps : List (ByteArray × ByteArray)} {name : ByteArray} {k : Nat} (h : k < ps.length) (h1 : (ps[k].1.toList == name.toList) = true) : anyNamed ps name = true := by
  unfold anyNamed
  rw [List.any_eq_true]
  exact ⟨ps[k], List.getElem_mem h, h1⟩

set_option maxRecDepth 100000 in
set_option maxHeartbeats 1000000 in
theorem index_any (ao : Option Addr) (c : Nat) (ps : List (ByteArray × ByteArray)) (name : ByteArray) (nb : Nat) (w : World) (hv : PView w (.slice ao ps.length c) ps) (hm : ps.length ≤ 65537) (hn : nb < w.heap.size) (hc : w.cell? ⟨nb, 0, none⟩ = some (.string name)) :
    Calls Try.prog 12 #[.slice ao ps.length c, .func (.func 11) #[] #[.pointer (some ⟨nb, 0, none⟩)]] w fun e w' => ∃ r : Int, e = .returned (.int .i64 r) ∧ decide (0 ≤ r) = anyNamed ps name ∧ Below w.heap.size w w' := by
  obtain ⟨ao', c', he, h1, h2, h3, hg⟩ := hv
  simp only [Value.slice.injEq, true_and] at he
  obtain ⟨rfl, rfl⟩ := he
  go_enter Try.func12, Try.ntmps12
  go_wp2
  go_loopw [8] (fun i wr => ∃ k : Nat, k ≤ ps.length ∧ i = .int .i64 k ∧ Hid (anyNamed (ps.take k) name = false) ∧ Below w.heap.size w wr) (fun i _ => ps.length - (intOf i).toNat)
  case atStart => exact ⟨0, Nat.zero_le _, rfl, rfl, Below.refl _ _⟩
  case round =>
    obtain ⟨k, hk, rfl, HA, hb⟩ := hrel
    by_cases hlt : k < ps.length
    · obtain ⟨g, o, rfl, hgl, hcell⟩ := hg (by omega)
      have hcc := cellsOf_at ps k hlt
      have c0 : wr.cell? ⟨g, o + k * 2, none⟩ = some (.string ps[k].1) := by rw [hb.cell (p := ⟨g, o + k * 2, none⟩) hgl]; exact hcell _ _ hcc.1
      have c1 : wr.cell? ⟨g, o + k * 2 + 1, none⟩ = some (.string ps[k].2) := by rw [hb.cell (p := ⟨g, o + k * 2 + 1, none⟩) hgl]; exact hcell _ _ hcc.2
      have hnr : nb < wr.heap.size := Nat.lt_of_lt_of_le hn hb.size
      have hcr : wr.cell? ⟨nb, 0, none⟩ = some (.string name) := by rw [hb.cell (p := ⟨nb, 0, none⟩) hn]; exact hc
      clear hcell hcc hg
      cases hm1 : (ps[k].1.toList == name.toList)
      · have HB : Hid (anyNamed (ps.take (k + 1)) name = false) := any_take_step hlt HA.out hm1
        go_wp2_with (go_at_call 11; refine (clo_any _ _ name nb _ hnr hcr).mono ?_; rintro e w1 ⟨rfl, hb1⟩)
        go_roundw
        case rel => exact ⟨k + 1, by omega, by go_num, HB, hb.trans (hb1.mono hb.size)⟩
        case measure => simp [intOf]; omega
      · have HB : Hid (anyNamed ps name = true) := any_hit hlt hm1
        go_wp2_with (go_at_call 11; refine (clo_any _ _ name nb _ hnr hcr).mono ?_; rintro e w1 ⟨rfl, hb1⟩)
        go_ret
        exact ⟨k, rfl, by rw [HB.out]; simp, hb.trans (hb1.mono hb.size)⟩
    · obtain rfl : k = ps.length := by omega
      have HB : Hid (anyNamed ps name = false) := by
        have := HA.out
        rw [List.take_of_length_le (Nat.le_refl _)] at this
        exact this
      go_wp2
      go_ret
      exact ⟨-1, rfl, by rw [HB.out]; decide, hb⟩

set_option maxRecDepth 100000 in
set_option maxHeartbeats 1000000 in
theorem named_any (v : Value) (ps : List (ByteArray × ByteArray)) (name : ByteArray) (w : World) (hv : PView w v ps) (hm : ps.length ≤ 65537) :
    Calls Try.prog 7 #[v, .string name] w fun e w' => e = .returned (.bool (anyNamed ps name)) ∧ Below w.heap.size w w' := by
  have hv0 := hv
  obtain ⟨ao, c, rfl, h1, h2, h3, hg⟩ := hv
  have hv1 : ∀ ob, PView (w.alloc ob) (.slice ao ps.length c) ps := fun ob => hv0.below ((Below.refl _ _).alloc (Nat.le_refl _) ob)
  have HV : Hid (∀ ob, PView (w.alloc ob) (.slice ao ps.length c) ps) := hv1
  clear hv0 hv1 hg h3
  go_enter Try.func7, Try.ntmps7
  go_wp2_with (first | (go_at_call 12; refine (index_any ao c ps name w.heap.size _ (HV.out _) hm (by simp) (by simp)).mono ?_; rintro e w1 ⟨r, rfl, hr, hb1⟩; have HR : Hid (decide (0 ≤ r) = anyNamed ps name) := hr; clear hr) | go_in)
  go_ret
  exact ⟨ret_bool HR.out, ((Below.refl _ _).alloc (Nat.le_refl _) _).trans (hb1.mono (by simp))⟩

set_option maxRecDepth 100000 in
set_option maxHeartbeats 2000000 in
theorem bound5_any (ao : Option Addr) (c : Nat) (ps : List (ByteArray × ByteArray)) (name : ByteArray) (at0 : Int) (addr : ByteArray) (w : World) (hv : PView w (.slice ao ps.length c) ps) (h1 : name.size ≤ maxLen) (h2 : addr.size ≤ maxLen) :
    Calls Try.prog 5 #[.slice ao ps.length c, .string name, .int .i64 at0, .string addr] w fun e w' => SomeBool e ∧ w' = w := by
  obtain ⟨ao', c', he, h3, h4, h5, hg⟩ := hv
  simp only [Value.slice.injEq, true_and] at he
  obtain ⟨rfl, rfl⟩ := he
  unfold maxLen at h1 h2 h4
  by_cases hl : ps.length ≤ 1048576
  · go_enter Try.func5, Try.ntmps5
    go_wp2
    go_loop [9, 10] (fun z i => ∃ k s : Nat, k ≤ ps.length ∧ i = .int .i64 k ∧ z = .int .i64 s ∧ s ≤ 1048576) (fun _ i => ps.length - (intOf i).toNat)
    case atStart => exact ⟨0, ps.length, Nat.zero_le _, rfl, by first | rfl | simp, hl⟩
    case round =>
      obtain ⟨k, s, hk, rfl, rfl, hs⟩ := hrel
      by_cases hlt : k < ps.length
      · obtain ⟨g, o, rfl, hgl, hcell⟩ := hg (by omega)
        have hcc := cellsOf_at ps k hlt
        have c0 := hcell _ _ hcc.1
        have c1 := hcell _ _ hcc.2
        rw [← Nat.add_assoc] at c1
        generalize ps[k].1 = n0 at *
        generalize ps[k].2 = n1 at *
        clear hcell hcc hg
        by_cases t0 : n0.size ≤ 1048576
        · by_cases t1 : s + n0.size ≤ 1048576
          · by_cases t2 : n1.size ≤ 1048576
            · by_cases t3 : s + n0.size + n1.size ≤ 1048576
              · go_wp2
                go_round
                case rel => exact ⟨k + 1, s + n0.size + n1.size, by omega, by go_num, by go_num, t3⟩
                case measure => simp [intOf]; omega
              · go_wp2
                go_ret
                exact ⟨someBool _, rfl⟩
            · go_wp2
              go_ret
              exact ⟨someBool _, rfl⟩
          · go_wp2
            go_ret
            exact ⟨someBool _, rfl⟩
        · go_wp2
          go_ret
          exact ⟨someBool _, rfl⟩
      · go_wp2
        all_goals
          go_ret
          exact ⟨someBool _, rfl⟩
  · go_enter Try.func5, Try.ntmps5
    go_wp2
    go_ret
    exact ⟨someBool _, rfl⟩

set_option maxRecDepth 100000 in
set_option maxHeartbeats 2000000 in
theorem bound8_any (ao : Option Addr) (c : Nat) (ps : List (ByteArray × ByteArray)) (name other : ByteArray) (w : World) (hv : PView w (.slice ao ps.length c) ps) (h1 : name.size ≤ maxLen) (h2 : other.size ≤ maxLen) :
    Calls Try.prog 8 #[.slice ao ps.length c, .string name, .string other] w fun e w' => SomeBool e ∧ w' = w := by
  obtain ⟨ao', c', he, h3, h4, h5, hg⟩ := hv
  simp only [Value.slice.injEq, true_and] at he
  obtain ⟨rfl, rfl⟩ := he
  unfold maxLen at h1 h2 h4
  by_cases hl : ps.length ≤ 1048576
  · go_enter Try.func8, Try.ntmps8
    go_wp2
    go_loop [7, 8] (fun z i => ∃ k s : Nat, k ≤ ps.length ∧ i = .int .i64 k ∧ z = .int .i64 s ∧ s ≤ 1048576) (fun _ i => ps.length - (intOf i).toNat)
    case atStart => exact ⟨0, ps.length, Nat.zero_le _, rfl, by first | rfl | simp, hl⟩
    case round =>
      obtain ⟨k, s, hk, rfl, rfl, hs⟩ := hrel
      by_cases hlt : k < ps.length
      · obtain ⟨g, o, rfl, hgl, hcell⟩ := hg (by omega)
        have hcc := cellsOf_at ps k hlt
        have c0 := hcell _ _ hcc.1
        have c1 := hcell _ _ hcc.2
        rw [← Nat.add_assoc] at c1
        generalize ps[k].1 = n0 at *
        generalize ps[k].2 = n1 at *
        clear hcell hcc hg
        by_cases t0 : n0.size ≤ 1048576
        · by_cases t1 : s + n0.size ≤ 1048576
          · by_cases t2 : n1.size ≤ 1048576
            · by_cases t3 : s + n0.size + n1.size ≤ 1048576
              · go_wp2
                go_round
                case rel => exact ⟨k + 1, s + n0.size + n1.size, by omega, by go_num, by go_num, t3⟩
                case measure => simp [intOf]; omega
              · go_wp2
                go_ret
                exact ⟨someBool _, rfl⟩
            · go_wp2
              go_ret
              exact ⟨someBool _, rfl⟩
          · go_wp2
            go_ret
            exact ⟨someBool _, rfl⟩
        · go_wp2
          go_ret
          exact ⟨someBool _, rfl⟩
      · go_wp2
        all_goals
          go_ret
          exact ⟨someBool _, rfl⟩
  · go_enter Try.func8, Try.ntmps8
    go_wp2
    go_ret
    exact ⟨someBool _, rfl⟩

end Go.Proofs.Qxb6614700a
