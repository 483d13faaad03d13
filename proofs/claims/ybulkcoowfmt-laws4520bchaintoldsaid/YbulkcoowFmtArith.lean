import Derived.Test.YbulkcoowFmtProg
import Derived.WalkKit
import Derived.Below
import Derived.Shelf.Bits.Mul64
namespace Go.Proofs.YbulkcoowFmt
open Go.RowKit

/-- a whole number of 64 bits -/
def R (a : Int) : Prop := -9223372036854775808 ≤ a ∧ a ≤ 9223372036854775807

theorem hide {p : Prop} (h : p) : Hid p := h

/-- what a checked step answers -/
def Steps (z : Int) (v : Value) : Prop := (v = .tuple #[.int .i64 z, .bool true] ∧ R z) ∨ v = .tuple #[.int .i64 0, .bool false]

set_option maxHeartbeats 1000000 in
theorem bsub_any (a b : Int) (w : World) (ha : R a) (hb : R b) : Calls Ybaf.prog 4 #[.int .i64 a, .int .i64 b] w fun e w' => (∃ v, e = .returned v ∧ Steps (a - b) v) ∧ w' = w := by
  obtain ⟨a0, a1⟩ := ha
  obtain ⟨b0, b1⟩ := hb
  by_cases hr : R (a - b)
  · have HR := hr
    obtain ⟨h0, h1⟩ := hr
    have hw : IntKind.i64.wrap (a - b) = a - b := by rw [IntKind.wrap_i64]; omega
    go_enter Ybaf.func4, Ybaf.ntmps4
    go_wp2
    all_goals
      go_ret2
      exact ⟨⟨_, rfl, Or.inl ⟨rfl, HR⟩⟩, rfl⟩
  · by_cases hp : 0 ≤ a
    · have hw : IntKind.i64.wrap (a - b) = a - b - 18446744073709551616 := by rw [IntKind.wrap_i64]; unfold R at hr; omega
      have hb2 : b < 0 := by unfold R at hr; omega
      have hn : a - b - 18446744073709551616 < 0 := by omega
      clear hr
      go_enter Ybaf.func4, Ybaf.ntmps4
      go_wp2
      all_goals
        go_ret2
        exact ⟨⟨_, rfl, Or.inr rfl⟩, rfl⟩
    · have hw : IntKind.i64.wrap (a - b) = a - b + 18446744073709551616 := by rw [IntKind.wrap_i64]; unfold R at hr; omega
      have hb2 : 0 ≤ b := by unfold R at hr; omega
      have hn : 0 ≤ a - b + 18446744073709551616 := by omega
      clear hr
      go_enter Ybaf.func4, Ybaf.ntmps4
      go_wp2
      all_goals
        go_ret2
        exact ⟨⟨_, rfl, Or.inr rfl⟩, rfl⟩

set_option maxHeartbeats 1000000 in
theorem badd_any (a b : Int) (w : World) (ha : R a) (hb : R b) : Calls Ybaf.prog 6 #[.int .i64 a, .int .i64 b] w fun e w' => (∃ v, e = .returned v ∧ Steps (a + b) v) ∧ w' = w := by
  obtain ⟨a0, a1⟩ := ha
  obtain ⟨b0, b1⟩ := hb
  by_cases hr : R (a + b)
  · have HR := hr
    obtain ⟨h0, h1⟩ := hr
    have hw : IntKind.i64.wrap (a + b) = a + b := by rw [IntKind.wrap_i64]; omega
    go_enter Ybaf.func6, Ybaf.ntmps6
    go_wp2
    all_goals
      go_ret2
      exact ⟨⟨_, rfl, Or.inl ⟨rfl, HR⟩⟩, rfl⟩
  · by_cases hp : 0 ≤ a
    · have hw : IntKind.i64.wrap (a + b) = a + b - 18446744073709551616 := by rw [IntKind.wrap_i64]; unfold R at hr; omega
      have hb2 : 0 ≤ b := by unfold R at hr; omega
      have hn : a + b - 18446744073709551616 < 0 := by omega
      clear hr
      go_enter Ybaf.func6, Ybaf.ntmps6
      go_wp2
      all_goals
        go_ret2
        exact ⟨⟨_, rfl, Or.inr rfl⟩, rfl⟩
    · have hw : IntKind.i64.wrap (a + b) = a + b + 18446744073709551616 := by rw [IntKind.wrap_i64]; unfold R at hr; omega
      have hb2 : b < 0 := by unfold R at hr; omega
      have hn : 0 ≤ a + b + 18446744073709551616 := by omega
      clear hr
      go_enter Ybaf.func6, Ybaf.ntmps6
      go_wp2
      all_goals
        go_ret2
        exact ⟨⟨_, rfl, Or.inr rfl⟩, rfl⟩


/-! ### the sign of a bit pattern -/
theorem wrap_toNat (v : BitVec 64) : IntKind.i64.wrap (v.toNat : Int) = v.toInt := by
  rw [IntKind.wrap_i64, BitVec.toInt_eq_toNat_cond]
  have := v.isLt
  split <;> omega
theorem toInt_R {a : Int} (h : R a) : (BitVec.ofInt 64 a).toInt = a := by
  rw [BitVec.toInt_ofInt]
  unfold R at h
  unfold Int.bmod
  simp
  split <;> omega
theorem msb_R {a : Int} (h : R a) : (BitVec.ofInt 64 a).msb = decide (a < 0) := by
  rw [BitVec.msb_eq_toInt, toInt_R h]
theorem bits_and_i64 (x y : Int) : bits .and .i64 x y = (BitVec.ofInt 64 x &&& BitVec.ofInt 64 y).toInt := wrap_toNat _
theorem bits_xor_i64 (x y : Int) : bits .xor .i64 x y = (BitVec.ofInt 64 x ^^^ BitVec.ofInt 64 y).toInt := wrap_toNat _
theorem sign_test (x y z t : Int) (hx : R x) (hy : R y) (hz : R z) (ht : R t) : (bits .and .i64 (bits .xor .i64 x y) (bits .xor .i64 z t) < 0) ↔ ((x < 0 ↔ ¬ y < 0) ∧ (z < 0 ↔ ¬ t < 0)) := by
  rw [bits_and_i64, bits_xor_i64, bits_xor_i64, BitVec.ofInt_toInt, BitVec.ofInt_toInt]
  have h : ∀ v : BitVec 64, v.toInt < 0 ↔ v.msb = true := fun v => by rw [BitVec.msb_eq_toInt]; simp
  rw [h, BitVec.msb_and, BitVec.msb_xor, BitVec.msb_xor, msb_R hx, msb_R hy, msb_R hz, msb_R ht]
  by_cases h1 : x < 0 <;> by_cases h2 : y < 0 <;> by_cases h3 : z < 0 <;> by_cases h4 : t < 0 <;> simp [h1, h2, h3, h4]

set_option maxHeartbeats 1000000 in
theorem add_any (c : Value) (a b l m : Int) (w : World) (ha : R a) (hb : R b) (hr : R (a + b)) : Calls Ybaf.prog 12 #[c, .int .i64 a, .int .i64 b, .agg #[.int .i64 l, .int .i64 m]] w fun e w' => e = .returned (.int .i64 (a + b)) ∧ w' = w.alloc (.cells #[.int .i64 l, .int .i64 m] 33) := by
  have hs : decide (bits BinOp.and IntKind.i64 (bits BinOp.xor IntKind.i64 a (a + b)) (bits BinOp.xor IntKind.i64 b (a + b)) < 0) = false := by
    rw [decide_eq_false_iff_not, sign_test a (a + b) b (a + b) ha hr hb hr]
    omega
  have hw : IntKind.i64.wrap (a + b) = a + b := by rw [IntKind.wrap_i64]; unfold R at hr; omega
  clear ha hb hr
  go_enter Ybaf.func12, Ybaf.ntmps12
  go_wp2
  go_ret
  exact ⟨rfl, rfl⟩

set_option maxHeartbeats 1000000 in
theorem sub_any (c : Value) (a b l m : Int) (w : World) (ha : R a) (hb : R b) (hr : R (a - b)) : Calls Ybaf.prog 13 #[c, .int .i64 a, .int .i64 b, .agg #[.int .i64 l, .int .i64 m]] w fun e w' => e = .returned (.int .i64 (a - b)) ∧ w' = w.alloc (.cells #[.int .i64 l, .int .i64 m] 33) := by
  have hs : decide (bits BinOp.and IntKind.i64 (bits BinOp.xor IntKind.i64 a b) (bits BinOp.xor IntKind.i64 a (a - b)) < 0) = false := by
    rw [decide_eq_false_iff_not, sign_test a b a (a - b) ha hb ha hr]
    omega
  have hw : IntKind.i64.wrap (a - b) = a - b := by rw [IntKind.wrap_i64]; unfold R at hr; omega
  clear ha hb hr
  go_enter Ybaf.func13, Ybaf.ntmps13
  go_wp2
  go_ret
  exact ⟨rfl, rfl⟩

set_option maxHeartbeats 1000000 in
theorem mul_any (c : Value) (a b l m : Int) (w : World) (ha : R a) (hb : R b) (hr : R (a * b)) : Calls Ybaf.prog 14 #[c, .int .i64 a, .int .i64 b, .agg #[.int .i64 l, .int .i64 m]] w fun e w' => e = .returned (.int .i64 (a * b)) ∧ w' = w.alloc (.cells #[.int .i64 l, .int .i64 m] 33) := by
  have hw : IntKind.i64.wrap (a * b) = a * b := by rw [IntKind.wrap_i64]; unfold R at hr; omega
  by_cases h0 : a = 0
  · subst h0
    simp only [Int.zero_mul] at hw ⊢
    clear ha hb hr
    go_enter Ybaf.func14, Ybaf.ntmps14
    go_wp2
    go_ret
    exact ⟨rfl, rfl⟩
  · have hm : ¬ (a = -1 ∧ b = -9223372036854775808) := by
      rintro ⟨rfl, rfl⟩
      unfold R at hr
      omega
    have hq : Int.tdiv (a * b) a = b := Int.mul_tdiv_cancel_left b h0
    have hw2 : IntKind.i64.wrap b = b := by rw [IntKind.wrap_i64]; unfold R at hb; omega
    clear ha hb hr
    go_enter Ybaf.func14, Ybaf.ntmps14
    go_wp2
    · go_ret
      refine ⟨?_, rfl⟩
      rename_i h1 h2
      show Ending.returned (Value.int IntKind.i64 (-b)) = _
      rw [h1, Int.neg_one_mul]
    · go_ret
      exact ⟨rfl, rfl⟩

set_option maxHeartbeats 1000000 in
theorem mul64_any (x y : Nat) (hx : x < 18446744073709551616) (hy : y < 18446744073709551616) (w : World) :
    Calls Ybaf.prog 9 #[.int .u64 x, .int .u64 y] w fun e w' => e = .returned (.tuple #[.int .u64 ((x * y / 18446744073709551616 : Nat) : Int), .int .u64 ((x * y % 18446744073709551616 : Nat) : Int)]) ∧ w' = w := by
  obtain ⟨bd, bt, bw, hhi⟩ := Lib.mul64_hi x y hx hy
  have ba := Lib.half_mul_le (a := x / 4294967296) (b := y / 4294967296) (by omega) (by omega)
  have bb := Lib.half_mul_le (a := x / 4294967296) (b := y % 4294967296) (by omega) (by omega)
  have bc := Lib.half_mul_le (a := x % 4294967296) (b := y / 4294967296) (by omega) (by omega)
  have ba' : x / 4294967296 * (y / 4294967296) < 18446744073709551616 := by omega
  have bb' : x / 4294967296 * (y % 4294967296) < 18446744073709551616 := by omega
  have bc' : x % 4294967296 * (y / 4294967296) < 18446744073709551616 := by omega
  have bh1 : x / 4294967296 * (y / 4294967296) + (x / 4294967296 * (y % 4294967296) + x % 4294967296 * (y % 4294967296) / 4294967296) / 4294967296 < 18446744073709551616 := by omega
  have bh : x / 4294967296 * (y / 4294967296) + (x / 4294967296 * (y % 4294967296) + x % 4294967296 * (y % 4294967296) / 4294967296) / 4294967296 + ((x / 4294967296 * (y % 4294967296) + x % 4294967296 * (y % 4294967296) / 4294967296) % 4294967296 + x % 4294967296 * (y / 4294967296)) / 4294967296 < 18446744073709551616 := by omega
  go_enter Ybaf.func9, Ybaf.ntmps9
  go_wp2
  simp only [Mul64.maskN x hx, Mul64.maskN y hy, Mul64.divN, Mul64.mulN, Mul64.addN, Mul64.wrapN _ bd, Mul64.wrapN _ bb', Mul64.wrapN _ bt, Mul64.maskN _ bt, Mul64.wrapN _ bc', Mul64.wrapN _ bw, Mul64.wrapN _ ba', Mul64.wrapN _ bh1, Mul64.wrapN _ bh, Mul64.wrapM (x * y)]
  rw [hhi]
  go_ret2
  exact ⟨rfl, rfl⟩

set_option maxHeartbeats 1000000 in
theorem bmul_any (a b : Int) (w : World) (ha : R a) (hb : R b) : Calls Ybaf.prog 7 #[.int .i64 a, .int .i64 b] w fun e w' => (∃ v, e = .returned v ∧ Steps (a * b) v) ∧ w' = w := by
  obtain ⟨a0, a1⟩ := ha
  obtain ⟨b0, b1⟩ := hb
  by_cases hza : a = 0
  · subst hza
    have HR : R (0 * b) := by rw [Int.zero_mul]; exact ⟨by decide, by decide⟩
    go_enter Ybaf.func7, Ybaf.ntmps7
    go_wp2
    go_ret2
    exact ⟨⟨_, rfl, Or.inl ⟨by rw [Int.zero_mul]; rfl, HR⟩⟩, rfl⟩
  · by_cases hzb : b = 0
    · subst hzb
      have HR : R (a * 0) := by rw [Int.mul_zero]; exact ⟨by decide, by decide⟩
      go_enter Ybaf.func7, Ybaf.ntmps7
      go_wp2
      go_ret2
      exact ⟨⟨_, rfl, Or.inl ⟨by rw [Int.mul_zero]; rfl, HR⟩⟩, rfl⟩
    · obtain ⟨x, hx⟩ : ∃ x : Nat, x = a.natAbs := ⟨_, rfl⟩
      obtain ⟨y, hy⟩ : ∃ y : Nat, y = b.natAbs := ⟨_, rfl⟩
      have hM := mul64_any x y (by omega) (by omega) w
      have za : (a == 0) = false := by simp [hza]
      have zb : (b == 0) = false := by simp [hzb]
      by_cases hna : a < 0
      · by_cases hnb : b < 0
        · have u1 : IntKind.u64.wrap a = a + 18446744073709551616 := by rw [IntKind.wrap_u64]; omega
          have u3 : IntKind.u64.wrap (-(a + 18446744073709551616)) = (x : Int) := by rw [IntKind.wrap_u64]; omega
          have u2 : IntKind.u64.wrap b = b + 18446744073709551616 := by rw [IntKind.wrap_u64]; omega
          have u4 : IntKind.u64.wrap (-(b + 18446744073709551616)) = (y : Int) := by rw [IntKind.wrap_u64]; omega
          have hab : a * b = ((x * y : Nat) : Int) := by rw [show a = -(x : Int) from by omega, show b = -(y : Int) from by omega]; simp [Int.neg_mul, Int.mul_neg]
          have hp1 : 1 ≤ x * y := Nat.mul_pos (by omega) (by omega)
          clear hx hy
          generalize x * y = p at hM hab hp1
          obtain ⟨Hi, hHi⟩ : ∃ Hi : Int, Hi = ((p / 18446744073709551616 : Nat) : Int) := ⟨_, rfl⟩
          obtain ⟨Lo, hLo⟩ : ∃ Lo : Int, Lo = ((p % 18446744073709551616 : Nat) : Int) := ⟨_, rfl⟩
          rw [← hHi, ← hLo] at hM
          have HM := hide hM
          have HAB := hide hab
          clear hM hab
          by_cases hh : Hi = 0
          · have hLp : Lo = (p : Int) := by omega
            by_cases hl : 9223372036854775807 < Lo
            · subst hh
              have HLp := hide hLp
              have l0 : 1 ≤ Lo := by omega
              have l1 : Lo < 18446744073709551616 := by omega
              clear hLp hLo hHi hp1
              go_enter Ybaf.func7, Ybaf.ntmps7
              go_wp2_with (first | (go_at_call 9; refine HM.out.mono ?_; rintro e w1 ⟨rfl, rfl⟩))
              go_ret2
              exact ⟨⟨_, rfl, Or.inr rfl⟩, rfl⟩
            · subst hh
              have HLp := hide hLp
              have l0 : 1 ≤ Lo := by omega
              have l1 : Lo < 18446744073709551616 := by omega
              clear hLp hLo hHi hp1
              have v2 : IntKind.i64.wrap Lo = Lo := by rw [IntKind.wrap_i64]; omega
              go_enter Ybaf.func7, Ybaf.ntmps7
              go_wp2_with (first | (go_at_call 9; refine HM.out.mono ?_; rintro e w1 ⟨rfl, rfl⟩))
              go_ret2
              have hz : a * b = Lo := by rw [HAB.out, HLp.out]
              exact ⟨⟨_, rfl, Or.inl ⟨by rw [hz]; rfl, by rw [hz]; unfold R; omega⟩⟩, rfl⟩
          · clear hLo hHi hp1
            go_enter Ybaf.func7, Ybaf.ntmps7
            go_wp2_with (first | (go_at_call 9; refine HM.out.mono ?_; rintro e w1 ⟨rfl, rfl⟩))
            go_ret2
            exact ⟨⟨_, rfl, Or.inr rfl⟩, rfl⟩
        · have u1 : IntKind.u64.wrap a = a + 18446744073709551616 := by rw [IntKind.wrap_u64]; omega
          have u3 : IntKind.u64.wrap (-(a + 18446744073709551616)) = (x : Int) := by rw [IntKind.wrap_u64]; omega
          have u2 : IntKind.u64.wrap b = (y : Int) := by rw [IntKind.wrap_u64]; omega
          have hab : a * b = -((x * y : Nat) : Int) := by rw [show a = -(x : Int) from by omega, show b = (y : Int) from by omega]; simp [Int.neg_mul]
          have hp1 : 1 ≤ x * y := Nat.mul_pos (by omega) (by omega)
          clear hx hy
          generalize x * y = p at hM hab hp1
          obtain ⟨Hi, hHi⟩ : ∃ Hi : Int, Hi = ((p / 18446744073709551616 : Nat) : Int) := ⟨_, rfl⟩
          obtain ⟨Lo, hLo⟩ : ∃ Lo : Int, Lo = ((p % 18446744073709551616 : Nat) : Int) := ⟨_, rfl⟩
          rw [← hHi, ← hLo] at hM
          have HM := hide hM
          have HAB := hide hab
          clear hM hab
          by_cases hh : Hi = 0
          · have hLp : Lo = (p : Int) := by omega
            by_cases hl : 9223372036854775808 < Lo
            · subst hh
              have HLp := hide hLp
              have l0 : 1 ≤ Lo := by omega
              have l1 : Lo < 18446744073709551616 := by omega
              clear hLp hLo hHi hp1
              go_enter Ybaf.func7, Ybaf.ntmps7
              go_wp2_with (first | (go_at_call 9; refine HM.out.mono ?_; rintro e w1 ⟨rfl, rfl⟩))
              go_ret2
              exact ⟨⟨_, rfl, Or.inr rfl⟩, rfl⟩
            · subst hh
              have HLp := hide hLp
              have l0 : 1 ≤ Lo := by omega
              have l1 : Lo < 18446744073709551616 := by omega
              clear hLp hLo hHi hp1
              have v1 : IntKind.u64.wrap (-Lo) = 18446744073709551616 - Lo := by rw [IntKind.wrap_u64]; omega
              have v2 : IntKind.i64.wrap (18446744073709551616 - Lo) = -Lo := by rw [IntKind.wrap_i64]; omega
              go_enter Ybaf.func7, Ybaf.ntmps7
              go_wp2_with (first | (go_at_call 9; refine HM.out.mono ?_; rintro e w1 ⟨rfl, rfl⟩))
              go_ret2
              have hz : a * b = -Lo := by rw [HAB.out, HLp.out]
              exact ⟨⟨_, rfl, Or.inl ⟨by rw [hz]; rfl, by rw [hz]; unfold R; omega⟩⟩, rfl⟩
          · clear hLo hHi hp1
            go_enter Ybaf.func7, Ybaf.ntmps7
            go_wp2_with (first | (go_at_call 9; refine HM.out.mono ?_; rintro e w1 ⟨rfl, rfl⟩))
            go_ret2
            exact ⟨⟨_, rfl, Or.inr rfl⟩, rfl⟩
      · by_cases hnb : b < 0
        · have u1 : IntKind.u64.wrap a = (x : Int) := by rw [IntKind.wrap_u64]; omega
          have u2 : IntKind.u64.wrap b = b + 18446744073709551616 := by rw [IntKind.wrap_u64]; omega
          have u4 : IntKind.u64.wrap (-(b + 18446744073709551616)) = (y : Int) := by rw [IntKind.wrap_u64]; omega
          have hab : a * b = -((x * y : Nat) : Int) := by rw [show a = (x : Int) from by omega, show b = -(y : Int) from by omega]; simp [Int.mul_neg]
          have hp1 : 1 ≤ x * y := Nat.mul_pos (by omega) (by omega)
          clear hx hy
          generalize x * y = p at hM hab hp1
          obtain ⟨Hi, hHi⟩ : ∃ Hi : Int, Hi = ((p / 18446744073709551616 : Nat) : Int) := ⟨_, rfl⟩
          obtain ⟨Lo, hLo⟩ : ∃ Lo : Int, Lo = ((p % 18446744073709551616 : Nat) : Int) := ⟨_, rfl⟩
          rw [← hHi, ← hLo] at hM
          have HM := hide hM
          have HAB := hide hab
          clear hM hab
          by_cases hh : Hi = 0
          · have hLp : Lo = (p : Int) := by omega
            by_cases hl : 9223372036854775808 < Lo
            · subst hh
              have HLp := hide hLp
              have l0 : 1 ≤ Lo := by omega
              have l1 : Lo < 18446744073709551616 := by omega
              clear hLp hLo hHi hp1
              go_enter Ybaf.func7, Ybaf.ntmps7
              go_wp2_with (first | (go_at_call 9; refine HM.out.mono ?_; rintro e w1 ⟨rfl, rfl⟩))
              go_ret2
              exact ⟨⟨_, rfl, Or.inr rfl⟩, rfl⟩
            · subst hh
              have HLp := hide hLp
              have l0 : 1 ≤ Lo := by omega
              have l1 : Lo < 18446744073709551616 := by omega
              clear hLp hLo hHi hp1
              have v1 : IntKind.u64.wrap (-Lo) = 18446744073709551616 - Lo := by rw [IntKind.wrap_u64]; omega
              have v2 : IntKind.i64.wrap (18446744073709551616 - Lo) = -Lo := by rw [IntKind.wrap_i64]; omega
              go_enter Ybaf.func7, Ybaf.ntmps7
              go_wp2_with (first | (go_at_call 9; refine HM.out.mono ?_; rintro e w1 ⟨rfl, rfl⟩))
              go_ret2
              have hz : a * b = -Lo := by rw [HAB.out, HLp.out]
              exact ⟨⟨_, rfl, Or.inl ⟨by rw [hz]; rfl, by rw [hz]; unfold R; omega⟩⟩, rfl⟩
          · clear hLo hHi hp1
            go_enter Ybaf.func7, Ybaf.ntmps7
            go_wp2_with (first | (go_at_call 9; refine HM.out.mono ?_; rintro e w1 ⟨rfl, rfl⟩))
            go_ret2
            exact ⟨⟨_, rfl, Or.inr rfl⟩, rfl⟩
        · have u1 : IntKind.u64.wrap a = (x : Int) := by rw [IntKind.wrap_u64]; omega
          have u2 : IntKind.u64.wrap b = (y : Int) := by rw [IntKind.wrap_u64]; omega
          have hab : a * b = ((x * y : Nat) : Int) := by rw [show a = (x : Int) from by omega, show b = (y : Int) from by omega]; simp
          have hp1 : 1 ≤ x * y := Nat.mul_pos (by omega) (by omega)
          clear hx hy
          generalize x * y = p at hM hab hp1
          obtain ⟨Hi, hHi⟩ : ∃ Hi : Int, Hi = ((p / 18446744073709551616 : Nat) : Int) := ⟨_, rfl⟩
          obtain ⟨Lo, hLo⟩ : ∃ Lo : Int, Lo = ((p % 18446744073709551616 : Nat) : Int) := ⟨_, rfl⟩
          rw [← hHi, ← hLo] at hM
          have HM := hide hM
          have HAB := hide hab
          clear hM hab
          by_cases hh : Hi = 0
          · have hLp : Lo = (p : Int) := by omega
            by_cases hl : 9223372036854775807 < Lo
            · subst hh
              have HLp := hide hLp
              have l0 : 1 ≤ Lo := by omega
              have l1 : Lo < 18446744073709551616 := by omega
              clear hLp hLo hHi hp1
              go_enter Ybaf.func7, Ybaf.ntmps7
              go_wp2_with (first | (go_at_call 9; refine HM.out.mono ?_; rintro e w1 ⟨rfl, rfl⟩))
              go_ret2
              exact ⟨⟨_, rfl, Or.inr rfl⟩, rfl⟩
            · subst hh
              have HLp := hide hLp
              have l0 : 1 ≤ Lo := by omega
              have l1 : Lo < 18446744073709551616 := by omega
              clear hLp hLo hHi hp1
              have v2 : IntKind.i64.wrap Lo = Lo := by rw [IntKind.wrap_i64]; omega
              go_enter Ybaf.func7, Ybaf.ntmps7
              go_wp2_with (first | (go_at_call 9; refine HM.out.mono ?_; rintro e w1 ⟨rfl, rfl⟩))
              go_ret2
              have hz : a * b = Lo := by rw [HAB.out, HLp.out]
              exact ⟨⟨_, rfl, Or.inl ⟨by rw [hz]; rfl, by rw [hz]; unfold R; omega⟩⟩, rfl⟩
          · clear hLo hHi hp1
            go_enter Ybaf.func7, Ybaf.ntmps7
            go_wp2_with (first | (go_at_call 9; refine HM.out.mono ?_; rintro e w1 ⟨rfl, rfl⟩))
            go_ret2
            exact ⟨⟨_, rfl, Or.inr rfl⟩, rfl⟩
end Go.Proofs.YbulkcoowFmt
