/-
  ldgB1Clone (6); what a slice of bytes shows ('View'); cborHead (14).
-/
import Derived.Test.Qxb6616034aRows
import Derived.WalkKit
import Derived.WalkSpells
import Derived.WalkLawsBesides
import Derived.Laws.CopyOwn
import Derived.Deep.QuietTactic
import Derived.BigQuiet
namespace Go.Proofs.Qxb6616034a
open Go.RowKit

/-- WHAT THE WALK IS TOLD OF A SLICE OF INTEGERS THAT CAME IN: it is nil; or it leads to a row of 'cap' cells, the numbers 'zs' (the first 'len' are its elements, the rest its spare room), each fitting its kind. -/
def IsRow (k : IntKind) (w : World) (a : Option Addr) (len cap : Nat) (zs : List Int) : Prop :=
  (a = none ∧ len = 0 ∧ cap = 0 ∧ zs = []) ∨
  ∃ x, a = some x ∧ len ≤ cap ∧ cap ≤ maxLen ∧ zs.length = cap ∧ (∀ i, i < zs.length → w.cell? (x.add i) = some (.int k (zs.getD i 0))) ∧ ∀ n ∈ zs, (Lit.int k n).wf = true

theorem ret_bool {a b : Bool} (h : a = b) : Ending.returned (.bool a) = .returned (.bool b) := by rw [h]
theorem ret_true {b : Bool} (h : b = true) : Ending.returned (.bool true) = .returned (.bool b) := by rw [h]
theorem ret_false {b : Bool} (h : b = false) : Ending.returned (.bool false) = .returned (.bool b) := by rw [h]
theorem info5 : (Try.prog.info? 5).map (fun i => (i.zero, i.size, i.bytes)) = some (some (.int .u8 0), 1, 1) := by kernel_rfl
theorem size5 : (Try.prog.info? 5).map (·.size) = some 1 := by kernel_rfl

/-- The value v owns the bytes xs. -/
def Own (w : World) (base : Nat) (v : Value) (xs : List Int) : Prop := w.ownsRow base 5 1 v xs.length (xs.map (Value.int .u8))

theorem bytes_one (xs : List Int) : ∀ u ∈ xs.map (Value.int .u8), u.oneCell' = true := by
  intro u hu; simp only [List.mem_map] at hu; obtain ⟨b, _, rfl⟩ := hu; rfl

theorem own_of_heap {w : World} {base g : Nat} {L : List Value} {xs : List Int} (hb : base ≤ g) (h : w.heap[g]? = some (.cells L.toArray 5 (0, 0))) (hL : L = xs.map (Value.int .u8)) (hm : xs.length ≤ maxLen) :
    Own w base (.slice (some ⟨g, 0, none⟩) xs.length xs.length) xs := by
  subst hL
  refine ⟨by simp, .inr ⟨g, _, _, rfl, hb, h, Nat.le_refl _, hm, by simp, by rw [Nat.mul_one]; exact List.take_of_length_le (by simp)⟩⟩

theorem make_row {w : World} {b g n : Nat} {xs : List Value} (h : w.ownsRow b 5 1 (.slice (some ⟨g, 0, none⟩) n n) n xs) : ∃ cur : List Value, w.heap[g]? = some (.cells cur.toArray 5 (0, 0)) ∧ cur.length = n := by
  obtain ⟨_, ⟨h1, _⟩ | ⟨g', cap, cur, hv, _, hh, _, _, hs, _⟩⟩ := h
  · cases h1
  · simp only [Value.slice.injEq, Option.some.injEq, Addr.mk.injEq] at hv
    obtain ⟨⟨rfl, _⟩, _, rfl⟩ := hv
    exact ⟨cur.toList, hh, by simpa using hs⟩

theorem splice_all (L : List Value) (xs : List Int) (h : L.length = xs.length) : splice L 0 (xs.map (Value.int .u8)) = xs.map (Value.int .u8) := by
  unfold splice
  rw [List.take_zero, List.nil_append, List.drop_eq_nil_of_le (by simp [h]), List.append_nil]

theorem row_src {w w' : World} {x : Addr} {zs : List Int} {len : Nat} (hb : Below w.heap.size w w') (hc : ∀ i, i < zs.length → w.cell? (x.add i) = some (.int .u8 (zs.getD i 0))) :
    ∀ j v, ((zs.take len).map (Value.int .u8))[j]? = some v → w'.cell? (x.add j) = some v := by
  intro j v hj
  rw [List.getElem?_map, Option.map_eq_some_iff] at hj
  obtain ⟨z, hz, rfl⟩ := hj
  rw [List.getElem?_take] at hz
  split at hz
  · have hjl := (List.getElem?_eq_some_iff.1 hz).1
    have h1 := hc j hjl
    have hlt : (x.add j).block < w.heap.size := by
      rcases Nat.lt_or_ge (x.add j).block w.heap.size with h | h
      · exact h
      · unfold World.cell? at h1
        rw [Array.getElem?_eq_none h] at h1
        cases h1
    rw [hb.cell hlt, h1]
    simp [List.getD, hz]
  · cases hz

theorem copy_own {base : Nat} {wm : World} {len0 cap0 : Nat} {x : Addr} {xs : List Int} {ys : List Value} (w : World) (hbase : base ≤ w.heap.size)
    (hown : wm.ownsRow w.heap.size 5 1 (.slice (some ⟨w.heap.size, 0, none⟩) len0 len0) len0 ys) (hgrow : w.grownBy wm none) (hx : xs.length = len0) (hl : len0 ≤ 1048576)
    (hsrc : ∀ (w' : World), Below w.heap.size w w' → ∀ j v, (xs.map (Value.int .u8))[j]? = some v → w'.cell? (x.add j) = some v) :
    ∃ w2, (Builtin.copy_ #[22, 22] 3 #[.slice (some ⟨w.heap.size, 0, none⟩) len0 len0, .slice (some x) len0 cap0]).run Try.prog wm = .ok (goInt len0) w2 ∧
      Own w2 base (.slice (some ⟨w.heap.size, 0, none⟩) len0 len0) xs ∧ Below w.heap.size w w2 := by
  obtain ⟨cur, hcur, hcl⟩ := make_row hown
  have hb1 : Below w.heap.size w wm := (Below.refl w.heap.size w).grown hgrow (Nat.le_refl _) (by simp)
  have hrun := run_copy_row (P := Try.prog) wm 22 22 3 5 w.heap.size 0 len0 len0 x len0 cap0 cur.toArray 5 (xs.map (Value.int .u8)) Try.underlying22 size5 hcur
    (by rw [List.length_map, hx]; exact (Nat.min_self _).symm) (hsrc wm hb1) (by simp [hx, hcl]) (bytes_one _)
  subst hx
  refine ⟨_, by simpa using hrun, ?_, below_setRow hb1 (Nat.le_refl _) _⟩
  refine own_of_heap (L := splice cur 0 (xs.map (Value.int .u8))) hbase ?_ (splice_all _ _ hcl) (by unfold maxLen; omega)
  rw [show splice cur 0 (xs.map (Value.int .u8)) = xs.map (Value.int .u8) ++ cur.drop xs.length from by simp [splice]]
  exact setRow_heap wm w.heap.size _ _ 5 _ hcur

set_option maxHeartbeats 1000000 in
theorem clone_any (base : Nat) (a0 : Option Addr) (len0 cap0 : Nat) (z0 : List Int) (w : World) (w0 : IsRow .u8 w a0 len0 cap0 z0) (hlen : len0 ≤ 1048576) (hbase : base ≤ w.heap.size) :
    Calls Try.prog 6 #[.slice a0 len0 cap0] w fun e w' => ∃ ao, e = .returned (.slice ao len0 len0) ∧ Own w' base (.slice ao len0 len0) (z0.take len0) ∧ Below w.heap.size w w' := by
  have heql := fun (w : World) (a : Option Addr) (l c : Nat) => Lib.run_eql_slice_nil (P := Try.prog) w 22 5 a l c 0 0 Try.underlying22
  rcases w0 with ⟨rfl, rfl, rfl, rfl⟩ | ⟨x, rfl, hl, hm, hz, hc, hwf⟩
  · go_enter Try.func6, Try.ntmps6
    go_wp2
    go_ret
    exact ⟨_, rfl, World.ownsRow_nil _ _ _ _, Below.refl _ _⟩
  · obtain ⟨i0, hi, hz0, hz1, hz2⟩ := info_parts info5
    have hzl : (z0.take len0).length = len0 := by simp; omega
    obtain ⟨xs, hxs⟩ : ∃ xs, xs = z0.take len0 := ⟨_, rfl⟩
    have hsrc := fun (w' : World) (hb : Below w.heap.size w w') => row_src (len := len0) hb hc
    rw [← hxs] at hsrc hzl ⊢
    have HX : Hid (xs.length = len0) := hzl
    have HSRC : Hid (∀ (w' : World), Below w.heap.size w w' → ∀ j v, (xs.map (Value.int .u8))[j]? = some v → w'.cell? (x.add j) = some v) := hsrc
    clear hxs hzl hsrc hc hwf
    go_enter Try.func6, Try.ntmps6
    go_wp2_with (first | (at_make; refine wpList_make_full _ rfl _ _ 22 rfl w.heap.size 5 i0 (.int .u8 0) 1 Try.underlying22 hi hz0 hz1 _ _ _ _ len0 rfl rfl (by omega) (by omega) (by rw [hz2]; omega) (by unfold maxLen; omega) (by simp) ?_; intro wm hown hgrow; obtain ⟨w2, hcp, HO, hB2⟩ := copy_own (base := base) (cap0 := cap0) (x := x) w hbase hown hgrow HX.out hlen HSRC.out))
    go_ret
    exact ⟨_, rfl, HO, hB2⟩

/-- What a slice of bytes shows: its elements xs; nil, or cells of one block. -/
def View (w : World) (v : Value) (xs : List Int) : Prop :=
  (∀ z ∈ xs, 0 ≤ z ∧ z < 256) ∧ ∃ ao c, v = .slice ao xs.length c ∧ xs.length ≤ c ∧ c ≤ 2097152 ∧
    ((ao = none ∧ c = 0) ∨ ∃ g o, ao = some ⟨g, o, none⟩ ∧ g < w.heap.size ∧ ∀ i, i < xs.length → w.cell? ⟨g, o + i, none⟩ = some (.int .u8 (xs.getD i 0)))

/-- The big-endian number of a list of bytes. -/
def be (l : List Int) : Int := l.foldl (fun a b => a * 256 + b) 0
theorem be_snoc (l : List Int) (z : Int) : be (l ++ [z]) = be l * 256 + z := by unfold be; rw [List.foldl_append]; rfl
theorem be_from (l : List Int) : ∀ a : Int, 0 ≤ a → (∀ z ∈ l, 0 ≤ z ∧ z < 256) → 0 ≤ l.foldl (fun a b => a * 256 + b) a ∧ l.foldl (fun a b => a * 256 + b) a < (a + 1) * 256 ^ l.length := by
  induction l with
  | nil => intro a ha _; simp; omega
  | cons z l ih =>
    intro a ha h
    have hz := h z (by simp)
    have h1 := ih (a * 256 + z) (by omega) (fun y hy => h y (List.mem_cons_of_mem _ hy))
    refine ⟨h1.1, Int.lt_of_lt_of_le h1.2 ?_⟩
    have hp : (0 : Int) ≤ 256 ^ l.length := Int.le_of_lt (Int.pow_pos (by decide))
    have h2 : (a * 256 + z + 1) * 256 ^ l.length ≤ ((a + 1) * 256) * 256 ^ l.length := Int.mul_le_mul_of_nonneg_right (by omega) hp
    rw [List.length_cons, Int.pow_succ, Int.mul_comm (256 ^ l.length) 256, ← Int.mul_assoc]
    exact h2
theorem be_range (l : List Int) (h : ∀ z ∈ l, 0 ≤ z ∧ z < 256) : 0 ≤ be l ∧ be l < 256 ^ l.length := by
  have := be_from l 0 (by decide) h
  simpa [be] using this

theorem results_tmp4 {fn : Func} {t u v x : Tmp} (h : fn.results = #[.tmp t, .tmp u, .tmp v, .tmp x]) (tmps : Array Value) (P : Program) (w : World) :
    (results fn tmps).run P w = .ok (.tuple #[tmps.getD t undef, tmps.getD u undef, tmps.getD v undef, tmps.getD x undef]) w := by
  simp [results, h]
theorem ret4 {a a' b b' : Int} {c c' d d' : Int} (h1 : a = a') (h2 : b = b') (h3 : c = c') (h4 : d = d') : Ending.returned (.tuple #[.int .u8 a, .int .u8 b, .int .u64 c, .int .i64 d]) = .returned (.tuple #[.int .u8 a', .int .u8 b', .int .u64 c', .int .i64 d']) := by rw [h1, h2, h3, h4]

theorem and31a : ∀ n : Fin 256, bits BinOp.and IntKind.u8 (n.val : Int) 31 = (n.val : Int) % 32 := by decide +kernel
theorem and31 (z : Int) (h0 : 0 ≤ z) (h1 : z < 256) : bits BinOp.and IntKind.u8 z 31 = z % 32 := by
  obtain ⟨n, rfl⟩ := Int.eq_ofNat_of_zero_le h0
  exact and31a ⟨n, by omega⟩

set_option maxHeartbeats 1000000 in
theorem head_empty (ao : Option Addr) (c : Nat) (w : World) :
    Calls Try.prog 14 #[.slice ao 0 c] w fun e w' => e = .returned (.tuple #[.int .u8 0, .int .u8 0, .int .u64 0, .int .i64 0]) ∧ ∃ q, w' = w.drewN q := by
  go_enter Try.func14, Try.ntmps14
  go_wp2
  refine bodyPost_ret (results_tmp4 rfl _ _ _) rfl ?_
  exact ⟨rfl, 0, rfl⟩

set_option maxRecDepth 100000 in
set_option maxHeartbeats 1000000 in
theorem head_small (g o n c : Nat) (x : Int) (w : World) (hn : 0 < n) (hn2 : n ≤ 2097152) (h0 : 0 ≤ x) (h1 : x < 256) (hc : w.cell? ⟨g, o, none⟩ = some (.int .u8 x)) (hi : x % 32 < 24) :
    Calls Try.prog 14 #[.slice (some ⟨g, o, none⟩) n c] w fun e w' => e = .returned (.tuple #[.int .u8 (x / 32), .int .u8 (x % 32), .int .u64 (x % 32), .int .i64 1]) ∧ ∃ q, w' = w.drewN q := by
  have ha := and31 x h0 h1
  go_enter Try.func14, Try.ntmps14
  go_wp2
  go_quiet (fail)
  go_wp2
  refine bodyPost_ret (results_tmp4 rfl _ _ _) rfl ?_
  exact ⟨rfl, _, rfl⟩

set_option maxRecDepth 100000 in
set_option maxHeartbeats 1000000 in
theorem head_res (g o n c : Nat) (x : Int) (w : World) (hn : 0 < n) (hn2 : n ≤ 2097152) (h0 : 0 ≤ x) (h1 : x < 256) (hc : w.cell? ⟨g, o, none⟩ = some (.int .u8 x)) (hi : 27 < x % 32) :
    Calls Try.prog 14 #[.slice (some ⟨g, o, none⟩) n c] w fun e w' => e = .returned (.tuple #[.int .u8 (x / 32), .int .u8 (x % 32), .int .u64 0, .int .i64 1]) ∧ ∃ q, w' = w.drewN q := by
  have ha := and31 x h0 h1
  go_enter Try.func14, Try.ntmps14
  go_wp2
  go_quiet (fail)
  go_wp2
  refine bodyPost_ret (results_tmp4 rfl _ _ _) rfl ?_
  exact ⟨rfl, _, rfl⟩
end Go.Proofs.Qxb6616034a
