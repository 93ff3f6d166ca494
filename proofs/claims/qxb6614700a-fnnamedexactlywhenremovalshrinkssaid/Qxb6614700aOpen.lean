/-
  From the argument's reading to 'PView': a slice of peers that came in.
-/
import Derived.Test.Qxb6614700aW2
import Derived.ProofKit
import Derived.OpenShut
import Derived.ShutString
import Derived.ChangeOld
import Derived.Below
import Derived.Deep.SlicePairs
namespace Go.Proofs.Qxb6614700a
open Go.ChangeShapes Go.WideShapes Go.ChangeAt Go.RowKit Go.Deep

theorem own : ownKnob Try.prog.godebug = none := by kernel_rfl
theorem laidOut : laidOutB Try.prog = true := by kernel_rfl

theorem peers_view {H : Type} {enc : TypeId × Value → H} {W : World} {spare : Nat → Bool} {held : Bool} {a : Option Addr} {len cap : Nat} {x : DataW H × List MemPlace} {fuel : Nat}
    (hf : DataW.trod enc Try.prog W 0 spare held fuel 22 (Value.slice a len cap).cells.toList = some x) : ∃ ps, ps.length = len ∧ PView W (.slice a len cap) ps := by
  rcases open_slice_pairs Try.underlying22 Try.underlying25 (by kernel_rfl) rfl rfl (by kernel_rfl) (by kernel_rfl) hf with ⟨hcs, _⟩ | ⟨ad, len', cap', m, n, V0, V1, D0, D1, P0, P1, hcs, _, hl, hm, hmm, _, hcell⟩
  · simp [Value.cells] at hcs
    obtain ⟨rfl, rfl, rfl⟩ := hcs
    exact ⟨[], rfl, none, 0, rfl, Nat.le_refl _, Nat.zero_le _, fun _ => rfl, fun h => absurd h (Nat.lt_irrefl 0)⟩
  · simp [Value.cells] at hcs
    obtain ⟨rfl, rfl, rfl⟩ := hcs
    have hlm : len ≤ m := by rw [hmm]; split <;> omega
    have each : ∀ i, i < len → ∃ p : ByteArray × ByteArray, W.cell? (ad.add (i * 2)) = some (.string p.1) ∧ W.cell? (ad.add (i * 2 + 1)) = some (.string p.2) := by
      intro i hi
      obtain ⟨c0, c1, t0, t1⟩ := hcell i (by omega)
      obtain ⟨s0, e0, _, _⟩ := DataW.trod_string Try.underlying9 t0
      obtain ⟨s1, e1, _, _⟩ := DataW.trod_string Try.underlying9 t1
      simp only [List.cons.injEq, and_true] at e0 e1
      exact ⟨(s0, s1), by rw [c0, e0], by rw [c1, e1]⟩
    obtain ⟨q, hq⟩ := choose_lt each
    have hlen : ((List.range len).map q).length = len := by simp
    refine ⟨(List.range len).map q, hlen, some ad, cap, by rw [hlen], by rw [hlen]; exact hl, hm, fun h => absurd h (by simp), fun hp => ?_⟩
    rw [hlen] at hp
    obtain ⟨g, o, spot⟩ := ad
    have hspot : spot = none := by simpa [Addr.add] using World.cell?_spot (hq 0 hp).1
    subst hspot
    have hlt : g < W.heap.size := by
      have h0 := (hq 0 hp).1
      rw [Go.WideShapes.add_plain] at h0
      rcases Nat.lt_or_ge g W.heap.size with h | h
      · exact h
      · unfold World.cell? at h0
        rw [Array.getElem?_eq_none h] at h0
        cases h0
    refine ⟨g, o, rfl, hlt, fun j u hj => ?_⟩
    have hjl := (List.getElem?_eq_some_iff.1 hj).1
    rw [cellsOf_length, hlen] at hjl
    have hi : j / 2 < len := by omega
    have hat := cellsOf_at ((List.range len).map q) (j / 2) (by rw [hlen]; exact hi)
    have hqi := hq (j / 2) hi
    have hge : ((List.range len).map q)[j / 2]'(by rw [hlen]; exact hi) = q (j / 2) := by simp
    rw [hge] at hat
    rw [Go.WideShapes.add_plain, Go.WideShapes.add_plain] at hqi
    rcases (show j = j / 2 * 2 ∨ j = j / 2 * 2 + 1 from by omega) with e | e
    · rw [e] at hj ⊢
      rw [hat.1] at hj
      rw [hqi.1]; exact hj
    · rw [e] at hj ⊢
      rw [hat.2] at hj
      rw [hqi.2]; exact hj
end Go.Proofs.Qxb6614700a
