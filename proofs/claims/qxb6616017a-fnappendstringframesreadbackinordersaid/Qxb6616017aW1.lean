/-
  The leaf walks: the bound (4), cloneBytes (5), AppendUvarint (10), appendString (9, 6).
-/
import Derived.Test.Qxb6616017aRows
import Derived.WalkKit
import Derived.WalkSpells
import Derived.WalkLawsBesides
import Derived.Laws.CopyOwn
import Derived.Lib.AppendStr
namespace Go.Proofs.Qxb6616017a
open Go.RowKit

/-- WHAT THE WALK IS TOLD OF A SLICE OF INTEGERS THAT CAME IN: it is nil; or it leads to a row of 'cap' cells, the numbers 'zs' (the first 'len' are its elements, the rest its spare room), each fitting its kind. -/
def IsRow (k : IntKind) (w : World) (a : Option Addr) (len cap : Nat) (zs : List Int) : Prop :=
  (a = none ∧ len = 0 ∧ cap = 0 ∧ zs = []) ∨
  ∃ x, a = some x ∧ len ≤ cap ∧ cap ≤ maxLen ∧ zs.length = cap ∧ (∀ i, i < zs.length → w.cell? (x.add i) = some (.int k (zs.getD i 0))) ∧ ∀ n ∈ zs, (Lit.int k n).wf = true

theorem ret_bool {a b : Bool} (h : a = b) : Ending.returned (.bool a) = .returned (.bool b) := by rw [h]
theorem ret_true {b : Bool} (h : b = true) : Ending.returned (.bool true) = .returned (.bool b) := by rw [h]
theorem ret_false {b : Bool} (h : b = false) : Ending.returned (.bool false) = .returned (.bool b) := by rw [h]
theorem info5 : (Try.prog.info? 5).map (fun i => (i.zero, i.size, i.bytes)) = some (some (.int .u8 0), 1, 1) := by kernel_rfl
theorem size5 : (Try.prog.info? 5).map (·.size) = some 1 := by kernel_rfl

/-- The value v owns the bytes xs. -/
def Own (w : World) (base : Nat) (v : Value) (xs : List Int) : Prop := w.ownsRow base 5 1 v xs.length (xs.map (Value.int .u8))

theorem bytes_one (xs : List Int) : ∀ u ∈ xs.map (Value.int .u8), u.oneCell' = true := by
  intro u hu; simp only [List.mem_map] at hu; obtain ⟨b, _, rfl⟩ := hu; rfl

theorem own_of_heap {w : World} {base g : Nat} {L : List Value} {xs : List Int} (hb : base ≤ g) (h : w.heap[g]? = some (.cells L.toArray 5 (0, 0))) (hL : L = xs.map (Value.int .u8)) (hm : xs.length ≤ maxLen) :
    Own w base (.slice (some ⟨g, 0, none⟩) xs.length xs.length) xs := by
  subst hL
  refine ⟨by simp, .inr ⟨g, _, _, rfl, hb, h, Nat.le_refl _, hm, by simp, by rw [Nat.mul_one]; exact List.take_of_length_le (by simp)⟩⟩

theorem make_row {w : World} {b g n : Nat} {xs : List Value} (h : w.ownsRow b 5 1 (.slice (some ⟨g, 0, none⟩) n n) n xs) : ∃ cur : List Value, w.heap[g]? = some (.cells cur.toArray 5 (0, 0)) ∧ cur.length = n := by
  obtain ⟨_, ⟨h1, _⟩ | ⟨g', cap, cur, hv, _, hh, _, _, hs, _⟩⟩ := h
  · cases h1
  · simp only [Value.slice.injEq, Option.some.injEq, Addr.mk.injEq] at hv
    obtain ⟨⟨rfl, _⟩, _, rfl⟩ := hv
    exact ⟨cur.toList, hh, by simpa using hs⟩

theorem splice_all (L : List Value) (xs : List Int) (h : L.length = xs.length) : splice L 0 (xs.map (Value.int .u8)) = xs.map (Value.int .u8) := by
  unfold splice
  rw [List.take_zero, List.nil_append, List.drop_eq_nil_of_le (by simp [h]), List.append_nil]

theorem row_src {w w' : World} {x : Addr} {zs : List Int} {len : Nat} (hb : Below w.heap.size w w') (hc : ∀ i, i < zs.length → w.cell? (x.add i) = some (.int .u8 (zs.getD i 0))) :
    ∀ j v, ((zs.take len).map (Value.int .u8))[j]? = some v → w'.cell? (x.add j) = some v := by
  intro j v hj
  rw [List.getElem?_map, Option.map_eq_some_iff] at hj
  obtain ⟨z, hz, rfl⟩ := hj
  rw [List.getElem?_take] at hz
  split at hz
  · have hjl := (List.getElem?_eq_some_iff.1 hz).1
    have h1 := hc j hjl
    have hlt : (x.add j).block < w.heap.size := by
      rcases Nat.lt_or_ge (x.add j).block w.heap.size with h | h
      · exact h
      · unfold World.cell? at h1
        rw [Array.getElem?_eq_none h] at h1
        cases h1
    rw [hb.cell hlt, h1]
    simp [List.getD, hz]
  · cases hz

theorem copy_own {base : Nat} {wm : World} {len0 cap0 : Nat} {x : Addr} {xs : List Int} {ys : List Value} (w : World) (hbase : base ≤ w.heap.size)
    (hown : wm.ownsRow w.heap.size 5 1 (.slice (some ⟨w.heap.size, 0, none⟩) len0 len0) len0 ys) (hgrow : w.grownBy wm none) (hx : xs.length = len0) (hl : len0 ≤ 1048576)
    (hsrc : ∀ (w' : World), Below w.heap.size w w' → ∀ j v, (xs.map (Value.int .u8))[j]? = some v → w'.cell? (x.add j) = some v) :
    ∃ w2, (Builtin.copy_ #[22, 22] 3 #[.slice (some ⟨w.heap.size, 0, none⟩) len0 len0, .slice (some x) len0 cap0]).run Try.prog wm = .ok (goInt len0) w2 ∧
      Own w2 base (.slice (some ⟨w.heap.size, 0, none⟩) len0 len0) xs ∧ Below w.heap.size w w2 := by
  obtain ⟨cur, hcur, hcl⟩ := make_row hown
  have hb1 : Below w.heap.size w wm := (Below.refl w.heap.size w).grown hgrow (Nat.le_refl _) (by simp)
  have hrun := run_copy_row (P := Try.prog) wm 22 22 3 5 w.heap.size 0 len0 len0 x len0 cap0 cur.toArray 5 (xs.map (Value.int .u8)) Try.underlying22 size5 hcur
    (by rw [List.length_map, hx]; exact (Nat.min_self _).symm) (hsrc wm hb1) (by simp [hx, hcl]) (bytes_one _)
  subst hx
  refine ⟨_, by simpa using hrun, ?_, below_setRow hb1 (Nat.le_refl _) _⟩
  refine own_of_heap (L := splice cur 0 (xs.map (Value.int .u8))) hbase ?_ (splice_all _ _ hcl) (by unfold maxLen; omega)
  rw [show splice cur 0 (xs.map (Value.int .u8)) = xs.map (Value.int .u8) ++ cur.drop xs.length from by simp [splice]]
  exact setRow_heap wm w.heap.size _ _ 5 _ hcur

set_option maxHeartbeats 1000000 in
theorem clone_any (base : Nat) (a0 : Option Addr) (len0 cap0 : Nat) (z0 : List Int) (w : World) (w0 : IsRow .u8 w a0 len0 cap0 z0) (hlen : len0 ≤ 1048576) (hbase : base ≤ w.heap.size) :
    Calls Try.prog 5 #[.slice a0 len0 cap0] w fun e w' => ∃ v, e = .returned v ∧ Own w' base v (z0.take len0) ∧ Below w.heap.size w w' := by
  have heql := fun (w : World) (a : Option Addr) (l c : Nat) => Lib.run_eql_slice_nil (P := Try.prog) w 22 5 a l c 0 0 Try.underlying22
  rcases w0 with ⟨rfl, rfl, rfl, rfl⟩ | ⟨x, rfl, hl, hm, hz, hc, hwf⟩
  · go_enter Try.func5, Try.ntmps5
    go_wp2
    go_ret
    exact ⟨_, rfl, World.ownsRow_nil _ _ _ _, Below.refl _ _⟩
  · obtain ⟨i0, hi, hz0, hz1, hz2⟩ := info_parts info5
    have hzl : (z0.take len0).length = len0 := by simp; omega
    obtain ⟨xs, hxs⟩ : ∃ xs, xs = z0.take len0 := ⟨_, rfl⟩
    have hsrc := fun (w' : World) (hb : Below w.heap.size w w') => row_src (len := len0) hb hc
    rw [← hxs] at hsrc hzl ⊢
    have HX : Hid (xs.length = len0) := hzl
    have HSRC : Hid (∀ (w' : World), Below w.heap.size w w' → ∀ j v, (xs.map (Value.int .u8))[j]? = some v → w'.cell? (x.add j) = some v) := hsrc
    clear hxs hzl hsrc hc hwf
    go_enter Try.func5, Try.ntmps5
    go_wp2_with (first | (at_make; refine wpList_make_full _ rfl _ _ 22 rfl w.heap.size 5 i0 (.int .u8 0) 1 Try.underlying22 hi hz0 hz1 _ _ _ _ len0 rfl rfl (by omega) (by omega) (by rw [hz2]; omega) (by unfold maxLen; omega) (by simp) ?_; intro wm hown hgrow; obtain ⟨w2, hcp, HO, hB2⟩ := copy_own (base := base) (cap0 := cap0) (x := x) w hbase hown hgrow HX.out hlen HSRC.out))
    go_ret
    exact ⟨_, rfl, HO, hB2⟩

/-- The bytes of an unsigned varint of at most f + 1 bytes. -/
def uvN : Nat → Nat → List Int
  | 0, x => [(x : Int)]
  | f + 1, x => if x < 128 then [(x : Int)] else ((x % 128 + 128 : Nat) : Int) :: uvN f (x / 128)
theorem uvN_small (f y : Nat) (h : y < 128) : uvN f y = [(y : Int)] := by cases f <;> simp [uvN, h]
theorem uvN_big (f y : Nat) (h : ¬ y < 128) : uvN (f + 1) y = ((y % 128 + 128 : Nat) : Int) :: uvN f (y / 128) := by rw [uvN, if_neg h]
theorem uvN_len : ∀ (f y : Nat), 1 ≤ (uvN f y).length ∧ (uvN f y).length ≤ f + 1 := by
  intro f
  induction f with
  | zero => intro y; simp [uvN]
  | succ f ih =>
    intro y
    by_cases h : y < 128
    · rw [uvN_small _ _ h]; simp
    · rw [uvN_big _ _ h]; have := ih (y / 128); simp; omega

theorem or128a : ∀ n : Fin 256, bits BinOp.or IntKind.u8 (n.val : Int) 128 = (n.val : Int) % 128 + 128 := by decide +kernel
theorem or128 (y : Nat) : bits BinOp.or IntKind.u8 ((y : Int) % 256) 128 = (y : Int) % 128 + 128 := by
  have h := or128a ⟨y % 256, by omega⟩
  rw [show ((y : Int) % 256) = ((y % 256 : Nat) : Int) by omega]
  simp only [] at h
  rw [h]; omega
theorem own_snoc {w : World} {base : Nat} {v : Value} {xs : List Int} {c : Int} (h : w.ownsRow base 5 1 v (xs.length + 1) (xs.map (Value.int .u8) ++ [.int .u8 c])) : Own w base v (xs ++ [c]) := by
  unfold Own; simpa using h

set_option maxRecDepth 100000 in
set_option maxHeartbeats 1000000 in
theorem appUv_any (base : Nat) (v : Value) (xs : List Int) (x : Nat) (w : World) (hx : x < 2097152) (hown : Own w base v xs) (hbase : base ≤ w.heap.size) (hxs : xs.length ≤ 2097152) :
    Calls Try.prog 10 #[v, .int .u64 x] w fun e w' => ∃ v', e = .returned v' ∧ Own w' base v' (xs ++ uvN 2 x) ∧ Below base w w' := by
  obtain ⟨i0, hi, hz0, hz1, hz2⟩ := info_parts info5
  go_enter Try.func10, Try.ntmps10
  go_wp2
  go_loopw [0, 1] (fun v x1 wr => ∃ (f y : Nat) (ys : List Int), x1 = .int .u64 y ∧ y < 128 ^ (f + 1) ∧ y < 2097152 ∧ Own wr base v (xs ++ ys) ∧ Below base w wr ∧ Hid (uvN 2 x = ys ++ uvN f y)) (fun _ x1 _ => (intOf x1).toNat)
  case atStart => exact ⟨2, x, [], rfl, by omega, hx, by simpa using hown, Below.refl _ _, rfl⟩
  case round =>
    obtain ⟨f, y, ys, rfl, hyf, hy, ho, hb, HU⟩ := hrel
    have hub := uvN_len 2 x
    have huc := uvN_len f y
    have hul := congrArg List.length HU.out
    rw [List.length_append] at hul
    have hyl : ys.length ≤ 2 := by omega
    clear hub huc hul
    have hsz := hb.size
    by_cases hlt : y < 128
    · have HF : Hid (xs ++ uvN 2 x = (xs ++ ys) ++ [(y : Int)]) := by show _ = _; rw [HU.out, uvN_small f y hlt, List.append_assoc]
      go_wp2_with (at_builtin; refine wpList_append_own _ rfl _ _ 22 rfl base 5 i0 (.int .u8 0) 1 1 Try.underlying22 hi hz0 hz1 hz2 rfl (by decide) _ _ _ rfl (ho.alloc _) ⟨wr.heap.size, 0, none⟩ 1 1 [.int .u8 (y : Int)] rfl rfl (cell_one_new _ _ _) (by simp [Value.oneCell']) (by unfold maxLen; simp; omega) (by simp; omega) (by simp; omega) ?_; intro v' w1 hown' hgrow _)
      go_ret
      exact ⟨_, rfl, by rw [HF.out]; exact own_snoc hown', (hb.alloc (by omega) _).grown hgrow (by simp; omega) (fun k hk => (World.ownsRow.lt ho k hk).1)⟩
    · have hor := or128 y
      have hfn : f ≠ 0 := by rintro rfl; omega
      obtain ⟨f', rfl⟩ : ∃ f', f = f' + 1 := ⟨f - 1, by omega⟩
      have HF : Hid (uvN 2 x = (ys ++ [(y : Int) % 128 + 128]) ++ uvN f' (y / 128)) := by
        show _ = _
        rw [HU.out, uvN_big f' y hlt, List.append_assoc]
        simp
      have HY : Hid (y / 128 < 128 ^ (f' + 1)) := Nat.div_lt_of_lt_mul (by rw [Nat.pow_succ] at hyf; omega)
      clear hyf
      go_wp2_with (at_builtin; refine wpList_append_own _ rfl _ _ 22 rfl base 5 i0 (.int .u8 0) 1 1 Try.underlying22 hi hz0 hz1 hz2 rfl (by decide) _ _ _ rfl (ho.alloc _) ⟨wr.heap.size, 0, none⟩ 1 1 [.int .u8 ((y : Int) % 128 + 128)] rfl rfl (cell_one_new _ _ _) (by simp [Value.oneCell']) (by unfold maxLen; simp; omega) (by simp; omega) (by simp; omega) ?_; intro v' w1 hown' hgrow _)
      go_roundw
      case rel => exact ⟨f', y / 128, ys ++ [(y : Int) % 128 + 128], by go_num, HY.out, by omega, by rw [← List.append_assoc]; exact own_snoc hown', (hb.alloc (by omega) _).grown hgrow (by simp; omega) (fun k hk => (World.ownsRow.lt ho k hk).1), HF⟩
      case measure => simp [intOf]; omega

/-- A string's bytes as numbers. -/
def nums (s : ByteArray) : List Int := s.data.toList.map fun b => (b.toNat : Int)
theorem nums_length (s : ByteArray) : (nums s).length = s.size := by simp [nums]
theorem strCells_nums (s : ByteArray) : Lib.strCells s = (nums s).map (Value.int .u8) := by unfold Lib.strCells nums; rw [List.map_map]; rfl

set_option maxRecDepth 100000 in
set_option maxHeartbeats 1000000 in
theorem appStr_any (base : Nat) (v : Value) (xs : List Int) (s : ByteArray) (w : World) (hs : s.size ≤ 262144) (hown : Own w base v xs) (hbase : base ≤ w.heap.size) (hxs : xs.length ≤ 1048576) :
    Calls Try.prog 6 #[v, .string s] w fun e w' => ∃ v', e = .returned v' ∧ Own w' base v' (xs ++ uvN 2 s.size ++ nums s) ∧ Below base w w' := by
  obtain ⟨i0, hi, hz0, hz1, hz2⟩ := info_parts info5
  have hul := uvN_len 2 s.size
  go_enter Try.func6, Try.ntmps6
  go_wp2_with (first | (go_at_call 10; refine (appUv_any base v xs s.size _ (by omega) hown hbase (by omega)).mono ?_; rintro e w1 ⟨v1, rfl, ho1, hb1⟩; have hbs := hb1.size) | (at_builtin; refine Lib.wpList_append_own_string (P := Try.prog) _ rfl _ _ 22 9 rfl base 5 i0 Try.underlying22 Try.underlying9 hi hz0 hz1 hz2 _ _ _ rfl ho1 s rfl (by unfold maxLen; simp; omega) (by simp; omega) (by omega) ?_; intro v' w2 hown' hgrow _) | go_in)
  go_ret
  refine ⟨_, rfl, ?_, hb1.grown hgrow (by omega) (fun k hk => (World.ownsRow.lt ho1 k hk).1)⟩
  unfold Own
  rw [strCells_nums] at hown'
  simpa [nums_length, Nat.add_assoc] using hown'
end Go.Proofs.Qxb6616017a
