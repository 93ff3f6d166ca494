/-
  The readers: the bound (4), readUvarint (7), stringAt (8).
-/
import Derived.Test.Qxb6616017aW1
import Derived.Deep.QuietTactic
import Derived.BigQuiet
namespace Go.Proofs.Qxb6616017a
open Go.RowKit

set_option maxHeartbeats 1000000 in
theorem bound_any (a0 : Option Addr) (len0 cap0 : Nat) (a b : ByteArray) (w : World) (hl : len0 ≤ maxLen) (ha : a.size ≤ maxLen) (hb : b.size ≤ maxLen) :
    Calls Try.prog 4 #[.slice a0 len0 cap0, .string a, .string b] w fun e w' => e = .returned (.bool (decide (len0 + a.size + b.size ≤ 1048576))) ∧ w' = w := by
  unfold maxLen at hl ha hb
  by_cases h0 : len0 ≤ 1048576
  · by_cases h1 : a.size ≤ 1048576
    · by_cases h2 : len0 + a.size ≤ 1048576
      · by_cases h3 : b.size ≤ 1048576
        · by_cases h4 : len0 + a.size + b.size ≤ 1048576
          all_goals
            go_enter Try.func4, Try.ntmps4
            go_wp2
            go_ret
            exact ⟨by simp [h4], rfl⟩
        · go_enter Try.func4, Try.ntmps4
          go_wp2
          go_ret
          exact ⟨ret_false (by simp; omega), rfl⟩
      · go_enter Try.func4, Try.ntmps4
        go_wp2
        go_ret
        exact ⟨ret_false (by simp; omega), rfl⟩
    · go_enter Try.func4, Try.ntmps4
      go_wp2
      go_ret
      exact ⟨ret_false (by simp; omega), rfl⟩
  · go_enter Try.func4, Try.ntmps4
    go_wp2
    go_ret
    exact ⟨ret_false (by simp; omega), rfl⟩

/-- The bytes xs stand at place pos of block g. -/
def At (w : World) (g pos : Nat) (xs : List Int) : Prop := ∀ i, i < xs.length → w.cell? ⟨g, pos + i, none⟩ = some (.int .u8 (xs.getD i 0))

theorem uv1 (x : Nat) (h : x < 128) : uvN 2 x = [(x : Int)] := uvN_small _ _ h
theorem uv2 (x : Nat) (h : ¬ x < 128) (h2 : x < 16384) : uvN 2 x = [(x : Int) % 128 + 128, (x : Int) / 128] := by
  rw [uvN_big _ _ h, uvN_small _ _ (by omega)]; simp
theorem uv3 (x : Nat) (h : ¬ x < 16384) (h2 : x < 2097152) : uvN 2 x = [(x : Int) % 128 + 128, (x : Int) / 128 % 128 + 128, (x : Int) / 128 / 128] := by
  rw [uvN_big _ _ (by omega), uvN_big _ _ (by omega)]; simp [uvN]

theorem and127a : ∀ n : Fin 256, bits BinOp.and IntKind.u8 (n.val : Int) 127 = (n.val : Int) % 128 := by decide +kernel
theorem and127 (z : Int) (h0 : 0 ≤ z) (h1 : z < 256) : bits BinOp.and IntKind.u8 z 127 = z % 128 := by
  obtain ⟨n, rfl⟩ := Int.eq_ofNat_of_zero_le h0
  exact and127a ⟨n, by omega⟩
theorem or_add (a b i : Nat) (h : a < 2 ^ i) : a ||| (b * 2 ^ i) = a + b * 2 ^ i := by
  rw [Nat.or_comm, Nat.mul_comm, ← Nat.two_pow_add_eq_or_of_lt h, Nat.add_comm]
theorem w64 (z : Int) (h0 : 0 ≤ z) (h1 : z ≤ 18446744073709551615) : IntKind.u64.wrap z = z := by rw [IntKind.wrap_u64]; omega
theorem or0 (a : Nat) (h : a < 128) : bits BinOp.or IntKind.u64 0 (a : Int) = a := by
  have := u64_or_nat 0 a (by omega) (by omega)
  simpa using this
theorem or7 (a b : Nat) (h : a < 128) (hb : b < 128) : bits BinOp.or IntKind.u64 (a : Int) ((b : Int) * 128) = ((a + b * 128 : Nat) : Int) := by
  have := u64_or_nat a (b * 128) (by omega) (by omega)
  rw [show b * 128 = b * 2 ^ 7 from rfl, or_add a b 7 (by omega)] at this
  simpa using this
theorem or14 (a b : Nat) (h : a < 16384) (hb : b < 128) : bits BinOp.or IntKind.u64 (a : Int) ((b : Int) * 16384) = ((a + b * 16384 : Nat) : Int) := by
  have := u64_or_nat a (b * 16384) (by omega) (by omega)
  rw [show b * 16384 = b * 2 ^ 14 from rfl, or_add a b 14 (by omega)] at this
  simpa using this
theorem rd1 (x : Nat) (h : x < 128) : bits BinOp.or IntKind.u64 0 (IntKind.u64.wrap (IntKind.u64.wrap (bits BinOp.and IntKind.u8 (x : Int) 127))) = (x : Int) := by
  rw [and127 _ (by omega) (by omega), show ((x : Int) % 128) = (x : Int) from by omega, w64 (x : Int) (by omega) (by omega), w64 (x : Int) (by omega) (by omega)]
  exact or0 x h
theorem rd2 (x : Nat) (_h1 : ¬ x < 128) (h : x < 16384) : bits BinOp.or IntKind.u64 (bits BinOp.or IntKind.u64 0 (IntKind.u64.wrap (IntKind.u64.wrap (bits BinOp.and IntKind.u8 ((x : Int) % 128 + 128) 127))))
    (IntKind.u64.wrap (IntKind.u64.wrap (bits BinOp.and IntKind.u8 ((x : Int) / 128) 127) * 128)) = (x : Int) := by
  rw [and127 _ (by omega) (by omega), and127 _ (by omega) (by omega)]
  rw [show ((x : Int) % 128 + 128) % 128 = ((x % 128 : Nat) : Int) from by omega, show ((x : Int) / 128 % 128) = ((x / 128 : Nat) : Int) from by omega]
  rw [w64 ((x % 128 : Nat) : Int) (by omega) (by omega), w64 ((x % 128 : Nat) : Int) (by omega) (by omega), or0 _ (by omega), w64 ((x / 128 : Nat) : Int) (by omega) (by omega), w64 (((x / 128 : Nat) : Int) * 128) (by omega) (by omega), or7 _ _ (by omega) (by omega)]
  omega
theorem rd3 (x : Nat) (h : x < 2097152) : bits BinOp.or IntKind.u64 (bits BinOp.or IntKind.u64 (bits BinOp.or IntKind.u64 0 (IntKind.u64.wrap (IntKind.u64.wrap (bits BinOp.and IntKind.u8 ((x : Int) % 128 + 128) 127))))
    (IntKind.u64.wrap (IntKind.u64.wrap (bits BinOp.and IntKind.u8 ((x : Int) / 128 % 128 + 128) 127) * 128)))
    (IntKind.u64.wrap (IntKind.u64.wrap (bits BinOp.and IntKind.u8 ((x : Int) / 128 / 128) 127) * 16384)) = (x : Int) := by
  rw [and127 _ (by omega) (by omega), and127 _ (by omega) (by omega), and127 _ (by omega) (by omega)]
  rw [show ((x : Int) % 128 + 128) % 128 = ((x % 128 : Nat) : Int) from by omega, show (((x : Int) / 128 % 128 + 128) % 128) = ((x / 128 % 128 : Nat) : Int) from by omega, show ((x : Int) / 128 / 128 % 128) = ((x / 16384 : Nat) : Int) from by omega]
  rw [w64 ((x % 128 : Nat) : Int) (by omega) (by omega), w64 ((x % 128 : Nat) : Int) (by omega) (by omega), or0 _ (by omega), w64 ((x / 128 % 128 : Nat) : Int) (by omega) (by omega), w64 (((x / 128 % 128 : Nat) : Int) * 128) (by omega) (by omega), or7 _ _ (by omega) (by omega),
    w64 ((x / 16384 : Nat) : Int) (by omega) (by omega), w64 (((x / 16384 : Nat) : Int) * 16384) (by omega) (by omega), or14 _ _ (by omega) (by omega)]
  omega
theorem ret3 {a b c d : Int} {e : Bool} (h1 : a = b) (h2 : c = d) : Ending.returned (.tuple #[.int .u64 a, .int .i64 c, .bool e]) = .returned (.tuple #[.int .u64 b, .int .i64 d, .bool e]) := by rw [h1, h2]

set_option maxRecDepth 100000 in
set_option maxHeartbeats 1000000 in
theorem readUv_any (g n cap pos x : Nat) (w : World) (hx : x < 2097152) (hat : At w g pos (uvN 2 x)) (hp : pos + (uvN 2 x).length ≤ n) (hn : n ≤ 4194304) :
    Calls Try.prog 7 #[.slice (some ⟨g, 0, none⟩) n cap, .int .i64 pos] w fun e w' => e = .returned (.tuple #[.int .u64 x, .int .i64 (uvN 2 x).length, .bool true]) ∧ w' = w := by
  by_cases h1 : x < 128
  · rw [uv1 x h1] at *
    have c0 := hat 0 (by simp)
    simp at hp c0
    go_enter Try.func7, Try.ntmps7
    go_wp2
    refine wp_loop_rounds 1 ?_
    rw [rounds_succ]
    go_wp2
    go_ret3
    exact ⟨ret3 (rd1 x h1) (by simp; try omega), rfl⟩
  · by_cases h2 : x < 16384
    · rw [uv2 x h1 h2] at *
      have c0 := hat 0 (by simp)
      have c1 := hat 1 (by simp)
      simp at hp c0 c1
      go_enter Try.func7, Try.ntmps7
      go_wp2
      refine wp_loop_rounds 2 ?_
      rw [rounds_succ]
      go_wp2
      rw [rounds_succ]
      go_wp2
      go_ret3
      exact ⟨ret3 (rd2 x h1 h2) (by simp; try omega), rfl⟩
    · rw [uv3 x h2 hx] at *
      have c0 := hat 0 (by simp)
      have c1 := hat 1 (by simp)
      have c2 := hat 2 (by simp)
      simp at hp c0 c1 c2
      go_enter Try.func7, Try.ntmps7
      go_wp2
      refine wp_loop_rounds 3 ?_
      rw [rounds_succ]
      go_wp2
      rw [rounds_succ]
      go_wp2
      rw [rounds_succ]
      go_wp2
      go_ret3
      exact ⟨ret3 (rd3 x hx) (by simp; try omega), rfl⟩

theorem nums_at (s : ByteArray) (k : Nat) (h : k < s.size) : (nums s).getD k 0 = (s[k].toNat : Int) := by
  have hk : k < s.data.size := h
  unfold nums
  simp only [List.getD, List.getElem?_map, Array.getElem?_toList]
  rw [Array.getElem?_eq_getElem hk]
  rfl
theorem At.below {w w' : World} {B g pos : Nat} {xs : List Int} (h : At w g pos xs) (hb : Below B w w') (hg : g < B) : At w' g pos xs :=
  fun i hi => by rw [hb.cell (p := ⟨g, pos + i, none⟩) hg]; exact h i hi

set_option maxRecDepth 100000 in
set_option maxHeartbeats 1000000 in
theorem strAt_any (g n cap pos : Nat) (s : ByteArray) (w : World) (hg : g < w.heap.size) (hat : At w g pos (nums s)) (hp : pos + s.size ≤ n) (hn : n ≤ 4194304) :
    Calls Try.prog 8 #[.slice (some ⟨g, 0, none⟩) n cap, .int .i64 pos, .string s] w fun e w' => e = .returned (.bool true) ∧ Below w.heap.size w w' := by
  go_enter Try.func8, Try.ntmps8
  go_wp2
  go_loopw [7] (fun i wr => ∃ k : Nat, k ≤ s.size ∧ i = .int .i64 k ∧ Below w.heap.size w wr) (fun i _ => s.size - (intOf i).toNat)
  case atStart => exact ⟨0, Nat.zero_le _, rfl, Below.refl _ _⟩
  case round =>
    obtain ⟨k, hk, rfl, hb⟩ := hrel
    by_cases hlt : k < s.size
    · have hc := (hat.below hb hg) k (by rw [nums_length]; exact hlt)
      rw [nums_at s k hlt] at hc
      go_wp2
      go_quiet (fail)
      go_wp2
      go_roundw
      case rel => exact ⟨k + 1, by omega, by go_num, below_drewN hb _⟩
      case measure => simp [intOf]; omega
    · go_wp2
      go_ret
      exact ⟨rfl, hb⟩

theorem readUv_at (g n cap : Nat) (p : Int) (pos x : Nat) (w : World) (hpp : p = pos) (hx : x < 2097152) (hat : At w g pos (uvN 2 x)) (hp : pos + (uvN 2 x).length ≤ n) (hn : n ≤ 4194304) :
    Calls Try.prog 7 #[.slice (some ⟨g, 0, none⟩) n cap, .int .i64 p] w fun e w' => e = .returned (.tuple #[.int .u64 x, .int .i64 (uvN 2 x).length, .bool true]) ∧ w' = w := by
  subst hpp; exact readUv_any g n cap pos x w hx hat hp hn
theorem strAt_at (g n cap : Nat) (p : Int) (pos : Nat) (s : ByteArray) (w : World) (hpp : p = pos) (hg : g < w.heap.size) (hat : At w g pos (nums s)) (hp : pos + s.size ≤ n) (hn : n ≤ 4194304) :
    Calls Try.prog 8 #[.slice (some ⟨g, 0, none⟩) n cap, .int .i64 p, .string s] w fun e w' => e = .returned (.bool true) ∧ Below w.heap.size w w' := by
  subst hpp; exact strAt_any g n cap pos s w hg hat hp hn
end Go.Proofs.Qxb6616017a
