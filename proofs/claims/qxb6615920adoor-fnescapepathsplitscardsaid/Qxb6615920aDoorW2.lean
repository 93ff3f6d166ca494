/-
  net/url.escape (16) at the mode 'path': the walk.
-/
import Derived.Test.Qxb6615920aDoorW1
import Derived.Laws.IdiomStrings
import Derived.Laws.BytesArg
import Derived.Deep.Cut
namespace Go.Proofs.Qxb6615920aDoor
open Go.RowKit

/-- One hexadecimal digit. -/
def hexd (k : Nat) : Int := if k < 10 then 48 + k else 55 + k
/-- One byte, escaped. -/
def esc1 (c : UInt8) : List Int := if keptB c.toNat then [(c.toNat : Int)] else [37, hexd (c.toNat / 16), hexd (c.toNat % 16)]
/-- A text, escaped. -/
def escL (l : List UInt8) : List Int := l.flatMap esc1
/-- How many bytes are escaped. -/
def cnt (l : List UInt8) : Nat := (l.filter fun c => !keptB c.toNat).length

theorem cnt_le (l : List UInt8) : cnt l ≤ l.length := List.length_filter_le _ _
theorem take_snoc (s : ByteArray) (k : Nat) (h : k < s.size) : s.data.toList.take (k + 1) = s.data.toList.take k ++ [s[k]] := by
  rw [List.take_succ_eq_append_getElem (by simpa using h)]; rfl
theorem cnt_kept (s : ByteArray) (k : Nat) (h : k < s.size) (hk : keptB s[k].toNat = true) : cnt (s.data.toList.take (k + 1)) = cnt (s.data.toList.take k) := by
  rw [take_snoc s k h]; unfold cnt; simp [hk]
theorem cnt_esc (s : ByteArray) (k : Nat) (h : k < s.size) (hk : keptB s[k].toNat = false) : cnt (s.data.toList.take (k + 1)) = cnt (s.data.toList.take k) + 1 := by
  rw [take_snoc s k h]; unfold cnt; simp [hk]
theorem cnt_take_le (s : ByteArray) (k : Nat) : cnt (s.data.toList.take k) ≤ k := by
  have := cnt_le (s.data.toList.take k); simp at this; omega

theorem bytes_conv (s : ByteArray) : ∃ (capf : World → Nat) (wf : World → World),
    (∀ w, (convert 9 45 (.string s)).run Tryd.prog w = .ok (.slice (some ⟨w.heap.size, 0, none⟩) s.size (capf w)) (wf w)) ∧
    (∀ w, (wf w).heap.size = w.heap.size + 1) ∧ (∀ w, Below w.heap.size w (wf w)) ∧
    (∀ w j (h : j < s.size), (wf w).cell? ⟨w.heap.size, j, none⟩ = some (.int .u8 (s[j].toNat : Int))) := by
  refine ⟨_, _, fun w => run_bytes_of_string w 9 45 5 s Tryd.underlying9 Tryd.underlying45 Tryd.underlying5, ?_, ?_, ?_⟩
  · intro w; simp
  · intro w; exact ((Below.refl _ _).drew).alloc (Nat.le_refl _) _
  · intro w j h
    have hj : j < s.data.size := h
    show (w.drew.alloc _).cell? ⟨w.drew.heap.size, j, none⟩ = _
    rw [World.cell?_alloc_mark]
    simp [bytesRow, Array.getElem?_append, h]
    rfl

theorem Tab.below {w w' : World} {B : Nat} (h : Tab w) (hb : Below B w w') (hB : 0 < B) : Tab w' :=
  ⟨Nat.lt_of_lt_of_le h.1 hb.size, fun i hi => by rw [hb.cell (p := ⟨0, i, none⟩) hB]; exact h.2 i hi⟩

/-- The row of bytes that lies at the head of block g. -/
def RowIs (w : World) (g : Nat) (xs : List Int) : Prop := ∀ i, i < xs.length → w.cell? ⟨g, i, none⟩ = some (.int .u8 (xs.getD i 0)) ∧ w.frozen? ⟨g, i, none⟩ = false

theorem RowIs.below {w w' : World} {B g : Nat} {xs : List Int} (h : RowIs w g xs) (hb : Below B w w') (hg : g < B) : RowIs w' g xs :=
  fun i hi => by rw [hb.cell (p := ⟨g, i, none⟩) hg, hb.frozen (p := ⟨g, i, none⟩) hg]; exact h i hi
theorem RowIs.set {w : World} {g : Nat} {xs : List Int} (h : RowIs w g xs) (k : Nat) (c : Int) : RowIs (w.setCell ⟨g, k, none⟩ (.int .u8 c)) g (xs.set k c) := by
  intro i hi
  rw [List.length_set] at hi
  refine ⟨?_, by rw [World.frozen?_setCell]; exact (h i hi).2⟩
  by_cases e : k = i
  · subst e
    rw [World.cell?_setCell_same _ _ _ (h k hi).1]
    simp [hi]
  · rw [World.cell?_setCell_other _ _ _ _ (by simp), (h i hi).1]
    simp [e]

/-- A row of n bytes at block g whose first ones are A. -/
def Fill (w : World) (g n : Nat) (A : List Int) : Prop := ∃ xs : List Int, xs.length = n ∧ RowIs w g xs ∧ xs.take A.length = A
theorem Fill.cell {w : World} {g n : Nat} {A : List Int} (h : Fill w g n A) (i : Nat) (hi : i < n) : ∃ z, w.cell? ⟨g, i, none⟩ = some (.int .u8 z) := by
  obtain ⟨xs, hx, hr, _⟩ := h; exact ⟨_, (hr i (by omega)).1⟩
theorem Fill.frozen {w : World} {g n : Nat} {A : List Int} (h : Fill w g n A) (i : Nat) (hi : i < n) : w.frozen? ⟨g, i, none⟩ = false := by
  obtain ⟨xs, hx, hr, _⟩ := h; exact (hr i (by omega)).2
theorem Fill.put {w : World} {g n : Nat} {A : List Int} (h : Fill w g n A) (hn : A.length < n) (k : Nat) (hk : k = A.length) (c : Int) : Fill (w.setCell ⟨g, k, none⟩ (.int .u8 c)) g n (A ++ [c]) := by
  subst hk
  obtain ⟨xs, hx, hr, ht⟩ := h
  refine ⟨xs.set A.length c, by simpa using hx, hr.set _ _, ?_⟩
  rw [List.length_append, List.length_singleton, List.take_succ_eq_append_getElem (by simp; omega), List.take_set_of_le (Nat.le_refl _), ht]
  simp
theorem Fill.put3 {w : World} {g n : Nat} {A : List Int} (h : Fill w g n A) (hn : A.length + 3 ≤ n) (a b c : Int) :
    Fill (((w.setCell ⟨g, A.length, none⟩ (.int .u8 a)).setCell ⟨g, A.length + 1, none⟩ (.int .u8 b)).setCell ⟨g, A.length + 2, none⟩ (.int .u8 c)) g n (A ++ [a, b, c]) := by
  have := ((h.put (by omega) _ rfl a).put (by simp; omega) (A.length + 1) (by simp) b).put (by simp; omega) (A.length + 2) (by simp) c
  simpa using this
theorem Fill.full {w : World} {g n : Nat} {A : List Int} (h : Fill w g n A) (hn : A.length = n) : ∀ i, i < n → w.cell? ⟨g, 0 + i, none⟩ = some (.int .u8 (A.getD i 0)) := by
  obtain ⟨xs, hx, hr, ht⟩ := h
  intro i hi
  have e : xs = A := by rw [← ht, List.take_of_length_le (by omega)]
  subst e
  rw [Nat.zero_add]
  exact (hr i (by omega)).1
theorem Fill.nil {w : World} {g : Nat} {xs : List Int} (h : RowIs w g xs) : Fill w g xs.length [] := ⟨xs, rfl, h, by simp⟩

theorem escL_snoc (s : ByteArray) (k : Nat) (h : k < s.size) : escL (s.data.toList.take (k + 1)) = escL (s.data.toList.take k) ++ esc1 s[k] := by
  rw [take_snoc s k h]; simp [escL]
theorem esc1_kept {c : UInt8} (h : keptB c.toNat = true) : esc1 c = [(c.toNat : Int)] := by simp [esc1, h]
theorem esc1_esc {c : UInt8} (h : keptB c.toNat = false) : esc1 c = [37, hexd (c.toNat / 16), hexd (c.toNat % 16)] := by simp [esc1, h]
theorem escL_length (l : List UInt8) : (escL l).length = l.length + 2 * cnt l := by
  induction l with
  | nil => rfl
  | cons c r ih =>
    have e : escL (c :: r) = esc1 c ++ escL r := rfl
    rw [e, List.length_append, ih]
    cases h : keptB c.toNat
    · rw [esc1_esc h]; simp [cnt, h]; omega
    · rw [esc1_kept h]; simp [cnt, h]; omega
theorem escL_take_le (l : List UInt8) (k : Nat) : (escL (l.take k)).length ≤ (escL l).length := by
  have : escL l = escL (l.take k) ++ escL (l.drop k) := by unfold escL; rw [← List.flatMap_append, List.take_append_drop]
  rw [this, List.length_append]; omega
theorem escL_same (l : List UInt8) (h : cnt l = 0) : escL l = l.map fun c => (c.toNat : Int) := by
  induction l with
  | nil => rfl
  | cons c r ih =>
    cases hk : keptB c.toNat
    · simp [cnt, hk] at h
    · have e : escL (c :: r) = esc1 c ++ escL r := rfl
      rw [e, esc1_kept hk, ih (by simpa [cnt, hk] using h)]; rfl
theorem strOfNums_bytes (s : ByteArray) : strOfNums (s.data.toList.map fun c => (c.toNat : Int)) = s := by
  unfold strOfNums
  rw [List.map_map]
  have : ((fun n : Int => UInt8.ofNat n.toNat) ∘ fun c : UInt8 => (c.toNat : Int)) = id := by funext c; simp
  rw [this]; simp

theorem buf_first (w w1 : World) (C : Array Value) (t : TypeId) (hC : C = Array.replicate 64 (.int .u8 0)) (n : Nat) (hn : n ≤ 64) (hs : w1.heap.size = w.heap.size + 1) (hb : Below w.heap.size w w1) :
    RowIs (w1.alloc (.cells C t)) (w.heap.size + 1) (List.replicate n 0) ∧ w.heap.size < w.heap.size + 1 ∧ w.heap.size + 1 < (w1.alloc (.cells C t)).heap.size ∧ Below w.heap.size w (w1.alloc (.cells C t)) := by
  subst hC
  refine ⟨?_, by omega, by simp [hs], hb.alloc (by omega) _⟩
  intro i hi
  rw [List.length_replicate] at hi
  rw [World.cell?_alloc_at _ _ _ _ hs.symm, World.frozen?_alloc_at _ _ _ _ hs.symm]
  simp [hi, show i < 64 by omega]
theorem make_first (w w1 wm : World) (o : Obj) (n : Nat) (hs : w1.heap.size = w.heap.size + 1) (hb : Below w.heap.size w w1)
    (hown : wm.ownsRow (w.heap.size + 2) 5 1 (.slice (some ⟨(w1.alloc o).heap.size, 0, none⟩) n n) n (madeCells (Value.int .u8 0).cells (n * 1)).toList) (hg : (w1.alloc o).grownBy wm none) :
    RowIs wm (w.heap.size + 1 + 1) (List.replicate n 0) ∧ w.heap.size < w.heap.size + 1 + 1 ∧ w.heap.size + 1 + 1 < wm.heap.size ∧ Below w.heap.size w wm := by
  rw [show (w1.alloc o).heap.size = w.heap.size + 1 + 1 by simp [hs]] at hown
  refine ⟨?_, by omega, ?_, (hb.alloc (by omega) o).grown hg (by simp [hs]; omega) (by simp)⟩
  · intro i hi
    rw [List.length_replicate] at hi
    refine ⟨?_, hown.frozenAt i⟩
    rw [hown.cellAt i (by omega)]
    have : (Value.int .u8 0).cells = #[Value.int .u8 0] := rfl
    rw [this, toList_madeCells_one]
    simp [hi]
  · exact (hown.lt (w.heap.size + 1 + 1) rfl).2

theorem hexs0 : ∀ i : Fin 16, (((⟨#[48, 49, 50, 51, 52, 53, 54, 55, 56, 57, 65, 66, 67, 68, 69, 70]⟩ : ByteArray)[i.val]'(by have := i.isLt; exact this)).toNat : Int) = hexd i.val := by decide
theorem hexs (i : Nat) (h : i < (⟨#[48, 49, 50, 51, 52, 53, 54, 55, 56, 57, 65, 66, 67, 68, 69, 70]⟩ : ByteArray).size) : (((⟨#[48, 49, 50, 51, 52, 53, 54, 55, 56, 57, 65, 66, 67, 68, 69, 70]⟩ : ByteArray)[i]).toNat : Int) = hexd i := hexs0 ⟨i, h⟩

theorem rel1 {w wr : World} {g n gs : Nat} {A : List Int} {s : ByteArray} (a : Int) (hF : Fill wr g n A) (hn : A.length + 1 ≤ n) (hb : Below w.heap.size w wr) (hg : w.heap.size < g) (hne : g ≠ gs)
    (hcw : ∀ j (h : j < s.size), wr.cell? ⟨gs, j, none⟩ = some (.int .u8 (s[j].toNat : Int))) :
    Fill (wr.setCell ⟨g, A.length, none⟩ (.int .u8 a)) g n (A ++ [a]) ∧ Below w.heap.size w (wr.setCell ⟨g, A.length, none⟩ (.int .u8 a)) ∧
      ∀ j (h : j < s.size), (wr.setCell ⟨g, A.length, none⟩ (.int .u8 a)).cell? ⟨gs, j, none⟩ = some (.int .u8 (s[j].toNat : Int)) :=
  ⟨hF.put (by omega) _ rfl a, hb.setCell (Nat.le_of_lt hg) _, fun j h => by rw [World.cell?_setCell_other _ _ _ _ (by simp)]; exact hcw j h⟩
theorem rel3 {w wr : World} {g n gs : Nat} {A : List Int} {s : ByteArray} (a b c : Int) (hF : Fill wr g n A) (hn : A.length + 3 ≤ n) (hb : Below w.heap.size w wr) (hg : w.heap.size < g) (hne : g ≠ gs)
    (hcw : ∀ j (h : j < s.size), wr.cell? ⟨gs, j, none⟩ = some (.int .u8 (s[j].toNat : Int))) :
    Fill (((wr.setCell ⟨g, A.length, none⟩ (.int .u8 a)).setCell ⟨g, A.length + 1, none⟩ (.int .u8 b)).setCell ⟨g, A.length + 2, none⟩ (.int .u8 c)) g n (A ++ [a, b, c]) ∧
      Below w.heap.size w (((wr.setCell ⟨g, A.length, none⟩ (.int .u8 a)).setCell ⟨g, A.length + 1, none⟩ (.int .u8 b)).setCell ⟨g, A.length + 2, none⟩ (.int .u8 c)) ∧
      ∀ j (h : j < s.size), (((wr.setCell ⟨g, A.length, none⟩ (.int .u8 a)).setCell ⟨g, A.length + 1, none⟩ (.int .u8 b)).setCell ⟨g, A.length + 2, none⟩ (.int .u8 c)).cell? ⟨gs, j, none⟩ = some (.int .u8 (s[j].toNat : Int)) :=
  ⟨hF.put3 hn a b c, ((hb.setCell (Nat.le_of_lt hg) _).setCell (Nat.le_of_lt hg) _).setCell (Nat.le_of_lt hg) _, fun j h => by
    rw [World.cell?_setCell_other _ _ _ _ (by simp), World.cell?_setCell_other _ _ _ _ (by simp), World.cell?_setCell_other _ _ _ _ (by simp)]; exact hcw j h⟩

theorem ret_str {a b : ByteArray} (h : a = b) : Ending.returned (.string a) = .returned (.string b) := by rw [h]
theorem info5 : (Tryd.prog.info? 5).map (fun i => (i.zero, i.size, i.bytes)) = some (some (.int .u8 0), 1, 1) := by kernel_rfl
theorem slice_buf (n : Nat) (h : n ≤ 64) (w : World) (b : Nat) : (Instr.sliceAt 50 (.pointer (some ⟨b, 0, none⟩)) none (some (.int .i64 (n : Int))) none).run Tryd.prog w = .ok (.slice (some ⟨b, 0, none⟩) n 64) w := by
  have hl : Tryd.prog.arrayLen 50 = 64 := by kernel_rfl
  have he : Tryd.prog.elem 50 = 5 := by kernel_rfl
  have hs : ∀ w, (sizeOf 5).run Tryd.prog w = .ok 1 w := fun w => by kernel_rfl
  rw [run_sliceAt_array_h w 50 ⟨b, 0, none⟩ (by rw [hl, he]; exact Tryd.underlying50) .i64 n (by omega) (by rw [hl]; omega), hl, he, hs]
  simp [Result.andThen, slicedAt, Addr.add]

set_option maxRecDepth 100000 in
set_option maxHeartbeats 1000000 in
theorem escape_any (s : ByteArray) (w : World) (hs : s.size ≤ 1048576) (ht : Tab w) :
    Calls Tryd.prog 16 #[.string s, .int .u8 1] w fun e w' => e = .returned (.string (strOfNums (escL s.data.toList))) ∧ Below w.heap.size w w' := by
  obtain ⟨capf, wf, hconv, hsz, hbel, hcell⟩ := bytes_conv s
  have ht1 : Tab (wf w) := ht.below (hbel w) ht.1
  have hc1 := hcell w
  go_enter Tryd.func16, Tryd.ntmps16
  go_wp2
  go_loop [5, 6, 19] (fun sp hx i => ∃ k : Nat, k ≤ s.size ∧ i = .int .i64 k ∧ sp = .int .i64 0 ∧ hx = .int .i64 (cnt (s.data.toList.take k))) (fun _ _ i => s.size - (intOf i).toNat)
  case atStart => exact ⟨0, Nat.zero_le _, rfl, rfl, rfl⟩
  case round =>
    obtain ⟨k, hk, rfl, rfl, rfl⟩ := hrel
    have hcn := cnt_take_le s k
    by_cases hlt : k < s.size
    · have hck := hc1 k hlt
      have hcb : s[k].toNat < 256 := s[k].toNat_lt
      cases hkp : keptB s[k].toNat
      · have HS : Hid (cnt (s.data.toList.take (k + 1)) = cnt (s.data.toList.take k) + 1) := cnt_esc s k hlt hkp
        go_wp2_with (go_at_call 17; refine (should_any _ _ (by omega) (by omega) ht1).mono ?_; rintro e w' ⟨rfl, rfl⟩)
        all_goals
          go_round
          case rel => exact ⟨k + 1, by omega, by go_num, rfl, by rw [HS.out]; go_num⟩
          case measure => simp [intOf]; omega
      · have HS : Hid (cnt (s.data.toList.take (k + 1)) = cnt (s.data.toList.take k)) := cnt_kept s k hlt hkp
        go_wp2_with (go_at_call 17; refine (should_any _ _ (by omega) (by omega) ht1).mono ?_; rintro e w' ⟨rfl, rfl⟩)
        all_goals
          go_round
          case rel => exact ⟨k + 1, by omega, by go_num, rfl, by rw [HS.out]⟩
          case measure => simp [intOf]; omega
    · obtain rfl : k = s.size := by omega
      rw [List.take_of_length_le (show s.data.toList.length ≤ s.size by simp)] at *
      by_cases hm : cnt s.data.toList = 0
      · go_wp2
        go_ret
        exact ⟨ret_str (by rw [escL_same _ hm, strOfNums_bytes]), hbel w⟩
      · obtain ⟨i0, hi, hz0, hz1, hz2⟩ := info_parts info5
        generalize hM : cnt s.data.toList = m at *
        have HM : Hid (cnt s.data.toList = m) := hM
        clear hM
        have hmb : ((m : Int) == 0) = false := beq_eq_false_iff_ne.2 (by omega)
        go_upto_if 50 with fail
        go_cut [10] from 16 (fun t wx => ∃ g cap, t = .slice (some ⟨g, 0, none⟩) (s.size + 2 * m) cap ∧ RowIs wx g (List.replicate (s.size + 2 * m) 0) ∧ w.heap.size < g ∧ g < wx.heap.size ∧ Below w.heap.size w wx)
        case first =>
          by_cases hr : s.size + 2 * m ≤ 64
          · have hsl : ∀ (wx : World) (b : Nat), (Instr.sliceAt 50 (.pointer (some ⟨b, 0, none⟩)) none (some (.int .i64 ((s.size : Int) + 2 * (m : Int)))) none).run Tryd.prog wx = .ok (.slice (some ⟨b, 0, none⟩) (s.size + 2 * m) 64) wx := fun wx b => by rw [show ((s.size : Int) + 2 * (m : Int)) = ((s.size + 2 * m : Nat) : Int) from by omega]; exact slice_buf _ hr wx b
            go_wp2
            go_meet
            exact ⟨_, _, rfl, buf_first w (wf w) _ 50 rfl _ hr (hsz w) (hbel w)⟩
          · go_wp2_with (at_make; refine wpList_make_full _ rfl _ _ 45 rfl (w.heap.size + 2) 5 i0 (.int .u8 0) 1 Tryd.underlying45 hi hz0 hz1 _ _ _ _ (s.size + 2 * m) rfl rfl (by omega) (by omega) (by rw [hz2]; omega) (by unfold maxLen; omega) (by simp [hsz]) ?_; intro wm hown hgrow)
            go_meet
            exact ⟨_, _, rfl, make_first w (wf w) wm _ _ (hsz w) (hbel w) hown hgrow⟩
        case rest =>
          obtain ⟨g, cap, rfl, hrow, hg1, hg2, hb⟩ := hcut
          have hc3 := hcell wc
          have hb3 : Below w.heap.size w (wf wc) := hb.trans ((hbel wc).mono (by have := hb.size; omega))
          have hr3 : Fill (wf wc) g (s.size + 2 * m) [] := by have := Fill.nil (hrow.below (hbel wc) hg2); simpa using this
          have hne : g ≠ wc.heap.size := by omega
          clear hc1 ht1 hrow
          go_wp2
          go_loopw [13, 78] (fun j i wr => ∃ k : Nat, k ≤ s.size ∧ i = .int .i64 k ∧ j = .int .i64 (escL (s.data.toList.take k)).length ∧ Fill wr g (s.size + 2 * m) (escL (s.data.toList.take k)) ∧ Below w.heap.size w wr ∧ (∀ j (h : j < s.size), wr.cell? ⟨wc.heap.size, j, none⟩ = some (.int .u8 (s[j].toNat : Int)))) (fun _ i _ => s.size - (intOf i).toNat)
          case atStart => exact ⟨0, Nat.zero_le _, rfl, rfl, hr3, hb3, hc3⟩
          case round =>
            obtain ⟨k, hk, rfl, rfl, hF, hbw, hcw⟩ := hrel
            have htw : Tab wr := ht.below hbw ht.1
            by_cases hlt : k < s.size
            · have hck := hcw k hlt
              have hcb : s[k].toNat < 256 := s[k].toNat_lt
              have hk32 : keptB 32 = false := by decide
              have hsn := escL_snoc s k hlt
              have hle := escL_take_le s.data.toList (k + 1)
              rw [hsn, escL_length, HM.out] at hle
              have hle' : (escL (s.data.toList.take k) ++ esc1 s[k]).length ≤ s.size + 2 * m := by simpa using hle
              have HS : Hid (escL (s.data.toList.take (k + 1)) = escL (s.data.toList.take k) ++ esc1 s[k]) := hsn
              clear hsn hle
              generalize escL (s.data.toList.take k) = A at *
              cases hkp : keptB s[k].toNat
              · rw [esc1_esc hkp] at hle' HS
                have hA : A.length + 3 ≤ s.size + 2 * m := by simpa using hle'
                obtain ⟨z0, hz0⟩ := hF.cell A.length (by omega)
                obtain ⟨z1, hz1⟩ := hF.cell (A.length + 1) (by omega)
                obtain ⟨z2, hz2⟩ := hF.cell (A.length + 2) (by omega)
                have hf0 := hF.frozen A.length (by omega)
                have hf1 := hF.frozen (A.length + 1) (by omega)
                have hf2 := hF.frozen (A.length + 2) (by omega)
                go_wp2_with (go_at_call 17; refine (should_any _ _ (by omega) (by omega) htw).mono ?_; rintro e w' ⟨rfl, rfl⟩)
                · have e32 : s[k].toNat = 32 := by omega
                  rw [e32] at HS
                  go_roundw
                  case rel => exact ⟨k + 1, by omega, by go_num, by rw [HS.out]; simp, by rw [HS.out, ← hexs (32 / 16) (by decide), ← hexs (32 % 16) (by decide)]; exact rel3 _ _ _ hF hA hbw hg1 hne hcw⟩
                  case measure => simp [intOf]; omega
                · go_roundw
                  case rel => exact ⟨k + 1, by omega, by go_num, by rw [HS.out]; simp, by rw [HS.out, ← hexs (s[k].toNat / 16) (by show s[k].toNat / 16 < 16; omega), ← hexs (s[k].toNat % 16) (by show s[k].toNat % 16 < 16; omega)]; exact rel3 _ _ _ hF hA hbw hg1 hne hcw⟩
                  case measure => simp [intOf]; omega
              · rw [esc1_kept hkp] at hle' HS
                have hA : A.length + 1 ≤ s.size + 2 * m := by simpa using hle'
                have h32 : ¬ (s[k].toNat : Int) = 32 := fun e => by rw [e, hk32] at hkp; cases hkp
                obtain ⟨z0, hz0⟩ := hF.cell A.length (by omega)
                have hf0 := hF.frozen A.length (by omega)
                go_wp2_with (go_at_call 17; refine (should_any _ _ (by omega) (by omega) htw).mono ?_; rintro e w' ⟨rfl, rfl⟩)
                go_roundw
                case rel => exact ⟨k + 1, by omega, by go_num, by rw [HS.out]; simp, by rw [HS.out]; exact rel1 _ hF hA hbw hg1 hne hcw⟩
                case measure => simp [intOf]; omega
            · obtain rfl : k = s.size := by omega
              rw [List.take_of_length_le (show s.data.toList.length ≤ s.size by simp)] at *
              have hlen : (escL s.data.toList).length = s.size + 2 * m := by rw [escL_length, HM.out]; simp
              have hback := run_convert_bytes_arg (P := Tryd.prog) wr 45 5 Tryd.underlying45 Tryd.underlying5 g 0 (s.size + 2 * m) cap _ hlen (hF.full hlen) 9 Tryd.underlying9
              have HL : Hid ((escL s.data.toList).length = s.size + 2 * m) := hlen
              clear hlen
              go_wp2
              go_ret
              exact ⟨rfl, hbw⟩
end Go.Proofs.Qxb6615920aDoor
