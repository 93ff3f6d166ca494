/-
  FnAppendStringFramesReadBackInOrder (3): the walk.
-/
import Derived.Test.Qxb6616017aW2
namespace Go.Proofs.Qxb6616017a
open Go.RowKit

theorem IsRow.len_le {k : IntKind} {w : World} {a : Option Addr} {len cap : Nat} {zs : List Int} (h : IsRow k w a len cap zs) : len ≤ maxLen ∧ len = (zs.take len).length := by
  rcases h with ⟨rfl, rfl, rfl, rfl⟩ | ⟨x, rfl, hl, hm, hz, _, _⟩
  · simp
  · exact ⟨Nat.le_trans hl hm, by simp; omega⟩
theorem IsRow.below {k : IntKind} {w w' : World} {a : Option Addr} {len cap : Nat} {zs : List Int} (h : IsRow k w a len cap zs) (hb : Below w.heap.size w w') : IsRow k w' a len cap zs := by
  rcases h with h | ⟨x, rfl, hl, hm, hz, hc, hwf⟩
  · exact .inl h
  · refine .inr ⟨x, rfl, hl, hm, hz, fun i hi => ?_, hwf⟩
    have h1 := hc i hi
    have hlt : (x.add i).block < w.heap.size := by
      rcases Nat.lt_or_ge (x.add i).block w.heap.size with h | h
      · exact h
      · unfold World.cell? at h1
        rw [Array.getElem?_eq_none h] at h1
        cases h1
    rw [hb.cell hlt, h1]
/-- What an owned value looks like. -/
theorem Own.shape {w : World} {base : Nat} {v : Value} {xs : List Int} (h : Own w base v xs) :
    ∃ ao co, v = .slice ao xs.length co ∧ (0 < xs.length → ∃ g, ao = some ⟨g, 0, none⟩ ∧ g < w.heap.size ∧ base ≤ g ∧ At w g 0 xs) := by
  have hw := h
  obtain ⟨hl, ⟨rfl, h0⟩ | ⟨g, cap, cur, rfl, hb, hh, hc, hm, hs, ht⟩⟩ := h
  · exact ⟨none, 0, by rw [h0], fun h => by omega⟩
  · refine ⟨_, cap, rfl, fun _ => ⟨g, rfl, (Array.getElem?_eq_some_iff.1 hh).1, hb, fun i hi => ?_⟩⟩
    rw [Nat.zero_add, hw.cellAt i (by omega)]
    simp [hi]
theorem At.mid {w : World} {g : Nat} {a b c : List Int} (h : At w g 0 (a ++ b ++ c)) (p : Nat) (hp : p = a.length) : At w g p b := by
  subst hp
  intro i hi
  have := h (a.length + i) (by simp; omega)
  rw [Nat.zero_add] at this
  rw [this]
  rw [List.append_assoc]
  simp only [List.getD]
  rw [List.getElem?_append_right (by omega), Nat.add_sub_cancel_left, List.getElem?_append_left hi]

set_option maxRecDepth 100000 in
set_option maxHeartbeats 2000000 in
theorem walk (a0 : Option Addr) (len0 cap0 : Nat) (z0 : List Int) (a1 : ByteArray) (a2 : ByteArray) (w : World) (w0 : IsRow .u8 w a0 len0 cap0 z0) (w1 : a1.size ≤ maxLen) (w2 : a2.size ≤ maxLen) :
    Calls Try.prog 3 #[.slice a0 len0 cap0, .string a1, .string a2] w fun e w' => e = .returned (.bool true) ∧ Below w.heap.size w w' := by
  obtain ⟨hl0, hlx⟩ := w0.len_le
  obtain ⟨xs, hxs⟩ : ∃ xs, xs = z0.take len0 := ⟨_, rfl⟩
  rw [← hxs] at hlx
  have HXS : Hid (z0.take len0 = xs) := hxs.symm
  have HL : Hid (xs.length = len0) := hlx.symm
  clear hxs hlx
  by_cases h1 : len0 + a1.size + a2.size ≤ 1048576
  · by_cases k0 : len0 ≤ 262144
    · by_cases k1 : a1.size ≤ 262144
      · by_cases k2 : a2.size ≤ 262144
        · have hu1 := uvN_len 2 a1.size
          have hu2 := uvN_len 2 a2.size
          go_enter Try.func3, Try.ntmps3
          go_wp2_with (go_at_call 4; refine (bound_any _ _ _ _ _ _ hl0 w1 w2).mono ?_; rintro e w' ⟨rfl, rfl⟩)
          refine (clone_any w'.heap.size a0 len0 cap0 z0 w' w0 (by omega) (Nat.le_refl _)).mono ?_
          rintro e wA ⟨vo, rfl, hoO, hbA⟩
          rw [HXS.out] at hoO
          obtain ⟨ao, co, hvo, hao⟩ := hoO.shape
          rw [HL.out] at hvo hao
          rw [hvo]
          go_wp2_with fail
          refine (clone_any wA.heap.size a0 len0 cap0 z0 wA (w0.below hbA) (by omega) (Nat.le_refl _)).mono ?_
          rintro e wB ⟨vb, rfl, hoB, hbB⟩
          rw [HXS.out] at hoB
          have hsB := hbB.size
          go_wp2_with fail
          refine (appStr_any wA.heap.size vb xs a1 wB k1 hoB hsB (by rw [HL.out]; omega)).mono ?_
          rintro e wC ⟨v1, rfl, ho1, hbC⟩
          have hsC := hbC.size
          go_wp2_with fail
          refine (appStr_any wA.heap.size v1 _ a2 wC k2 ho1 (by omega) (by rw [List.length_append, List.length_append, nums_length, HL.out]; omega)).mono ?_
          rintro e wD ⟨v2, rfl, ho2, hbD⟩
          have hsD := hbD.size
          obtain ⟨ag, cg, hv2, hag⟩ := ho2.shape
          obtain ⟨n, hn⟩ : ∃ n, n = (xs ++ uvN 2 a1.size ++ nums a1 ++ uvN 2 a2.size ++ nums a2).length := ⟨_, rfl⟩
          rw [← hn] at hv2 hag
          have hnn : n = len0 + (uvN 2 a1.size).length + a1.size + (uvN 2 a2.size).length + a2.size := by rw [hn]; simp only [List.length_append, nums_length, HL.out]
          have HN : Hid (n = len0 + (uvN 2 a1.size).length + a1.size + (uvN 2 a2.size).length + a2.size) := hnn
          obtain ⟨g, rfl, hgD, hgB, hat⟩ := hag (by omega)
          have n1 : len0 + 1 ≤ n := by omega
          have n2 : n ≤ 1048582 := by omega
          clear hn hnn
          rw [hv2]
          clear hv2 hvo hag
          have hAD : Below wA.heap.size wA wD := (hbB.trans hbC).trans hbD
          have hfin : Below w'.heap.size w' wD := hbA.trans (hAD.mono hbA.size)
          have t1 : At wD g len0 (uvN 2 a1.size) := At.mid (a := xs) (b := uvN 2 a1.size) (c := nums a1 ++ uvN 2 a2.size ++ nums a2) (by simpa [List.append_assoc] using hat) len0 HL.out.symm
          have t2 : At wD g (len0 + (uvN 2 a1.size).length) (nums a1) := At.mid (a := xs ++ uvN 2 a1.size) (b := nums a1) (c := uvN 2 a2.size ++ nums a2) (by simpa [List.append_assoc] using hat) _ (by rw [List.length_append, HL.out])
          have t3 : At wD g (len0 + (uvN 2 a1.size).length + a1.size) (uvN 2 a2.size) := At.mid (a := xs ++ uvN 2 a1.size ++ nums a1) (b := uvN 2 a2.size) (c := nums a2) hat _ (by rw [List.length_append, List.length_append, nums_length, HL.out])
          have t4 : At wD g (len0 + (uvN 2 a1.size).length + a1.size + (uvN 2 a2.size).length) (nums a2) := At.mid (a := xs ++ uvN 2 a1.size ++ nums a1 ++ uvN 2 a2.size) (b := nums a2) (c := []) (by simpa using hat) _ (by rw [List.length_append, List.length_append, List.length_append, nums_length, HL.out])
          have t0 : At wD g 0 xs := At.mid (a := []) (b := xs) (c := uvN 2 a1.size ++ nums a1 ++ uvN 2 a2.size ++ nums a2) (by simpa [List.append_assoc] using hat) 0 rfl
          go_wp2_with fail
          go_loopw [9] (fun i wr => ∃ k : Nat, k ≤ len0 ∧ i = .int .i64 k ∧ Below wD.heap.size wD wr) (fun i _ => len0 - (intOf i).toNat)
          case atStart => exact ⟨0, Nat.zero_le _, rfl, Below.refl _ _⟩
          case round =>
            obtain ⟨k, hk, rfl, hbr⟩ := hrel
            by_cases hlt : k < len0
            · obtain ⟨go, rfl, hgoA, hgoB, hato⟩ := hao (by omega)
              have c1 := (t0.below hbr hgD) k (by rw [HL.out]; exact hlt)
              have c2 := ((hato.below hAD hgoA).below hbr (Nat.lt_of_lt_of_le hgoA hAD.size)) k (by rw [HL.out]; exact hlt)
              rw [Nat.zero_add] at c1 c2
              go_wp2
              go_quiet (fail)
              go_wp2
              go_roundw
              case rel => exact ⟨k + 1, by omega, by go_num, below_drewN hbr _⟩
              case measure => simp [intOf]; omega
            · have hlr := hbr.size
              have hn1 : n ≤ len0 + (uvN 2 a1.size).length + a1.size + (uvN 2 a2.size).length + a2.size := Nat.le_of_eq HN.out
              have hn2 : len0 + (uvN 2 a1.size).length + a1.size + (uvN 2 a2.size).length + a2.size ≤ n := Nat.le_of_eq HN.out.symm
              go_wp2_with fail
              refine (readUv_at g n cg _ len0 a1.size _ rfl (by omega) (t1.below hbr hgD) (by omega) (by omega)).mono ?_
              rintro e wE ⟨rfl, rfl⟩
              go_wp2_with fail
              refine (strAt_at g n cg _ (len0 + (uvN 2 a1.size).length) a1 _ (by omega) (by omega) (t2.below hbr hgD) (by omega) (by omega)).mono ?_
              rintro e wF ⟨rfl, hbF⟩
              have hbr2 := hbr.trans (hbF.mono hlr)
              have hlr2 := hbr2.size
              go_wp2_with fail
              refine (readUv_at g n cg _ (len0 + (uvN 2 a1.size).length + a1.size) a2.size _ (by omega) (by omega) (t3.below hbr2 hgD) (by omega) (by omega)).mono ?_
              rintro e wG ⟨rfl, rfl⟩
              go_wp2_with fail
              refine (strAt_at g n cg _ (len0 + (uvN 2 a1.size).length + a1.size + (uvN 2 a2.size).length) a2 _ (by omega) (by omega) (t4.below hbr2 hgD) (by omega) (by omega)).mono ?_
              rintro e wH ⟨rfl, hbH⟩
              go_wp2
              go_ret
              exact ⟨(ret_bool (by rw [beq_iff_eq]; omega)), hfin.trans ((hbr2.trans (hbH.mono hlr2)).mono hfin.size)⟩
        · go_enter Try.func3, Try.ntmps3
          go_wp2_with (go_at_call 4; refine (bound_any _ _ _ _ _ _ hl0 w1 w2).mono ?_; rintro e w' ⟨rfl, rfl⟩)
          go_ret
          exact ⟨rfl, Below.refl _ _⟩
      · go_enter Try.func3, Try.ntmps3
        go_wp2_with (go_at_call 4; refine (bound_any _ _ _ _ _ _ hl0 w1 w2).mono ?_; rintro e w' ⟨rfl, rfl⟩)
        go_ret
        exact ⟨rfl, Below.refl _ _⟩
    · go_enter Try.func3, Try.ntmps3
      go_wp2_with (go_at_call 4; refine (bound_any _ _ _ _ _ _ hl0 w1 w2).mono ?_; rintro e w' ⟨rfl, rfl⟩)
      go_ret
      exact ⟨rfl, Below.refl _ _⟩
  · go_enter Try.func3, Try.ntmps3
    go_wp2_with (go_at_call 4; refine (bound_any _ _ _ _ _ _ hl0 w1 w2).mono ?_; rintro e w' ⟨rfl, rfl⟩)
    go_ret
    exact ⟨rfl, Below.refl _ _⟩
end Go.Proofs.Qxb6616017a
