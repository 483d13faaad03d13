import Derived.Test.YbulkcomeRows
import Derived.WalkKit
import Derived.WalkSpells
import Derived.WalkLawsBesides
namespace Go.Proofs.Ybulkcome
open Go.RowKit

theorem run_store_float {P : Program} {w : World} {a : Addr} {m : Mode} (k : FloatKind) (n : Nat) : (store a (.float k n) m).run P w = stored P w a (.float k n) m := run_store P w a _ m rfl
attribute [local go_sem] run_store_float

theorem run_float64bits (b : Nat) (w : World) : (callFunc 12 #[.float .f64 b]).run Yba.prog w = .ok (.value (.int .u64 b)) w := by
  rw [run_callFunc_extern (P := Yba.prog) (f := 12) (fn := Yba.f12) (e := Extern.MathFloatBits.float64bits) Yba.func12 (by kernel_rfl) (by kernel_rfl) (by kernel_rfl) (by kernel_rfl)]
  rfl

theorem run_float64frombits (n : Int) (w : World) : (callFunc 17 #[.int .u64 n]).run Yba.prog w = .ok (.value (.float .f64 n.toNat)) w := by
  rw [run_callFunc_extern (P := Yba.prog) (f := 17) (fn := Yba.f17) (e := Extern.MathFloatBits.float64frombits) Yba.func17 (by kernel_rfl) (by kernel_rfl) (by kernel_rfl) (by kernel_rfl)]
  rfl

theorem andNot_top (k : Int) (h0 : 9223372036854775808 ≤ k) (h1 : k < 18446744073709551616) :
    bits .andNot .u64 k 9223372036854775808 = k - 9223372036854775808 := by
  obtain ⟨n, rfl⟩ := Int.eq_ofNat_of_zero_le (Int.le_trans (by decide) h0)
  show IntKind.u64.wrap ((BitVec.ofInt 64 (n : Int) &&& ~~~ BitVec.ofInt 64 9223372036854775808).toNat : Int) = _
  have h2 : ~~~ BitVec.ofInt 64 9223372036854775808 = BitVec.ofNat 64 (2 ^ 63 - 1) := by decide
  rw [h2, BitVec.toNat_and, BitVec.ofInt_natCast, BitVec.toNat_ofNat, BitVec.toNat_ofNat, Nat.mod_eq_of_lt (a := 2 ^ 63 - 1) (by decide), Nat.and_two_pow_sub_one_eq_mod, IntKind.wrap_u64]
  omega

theorem xor_max (k : Int) (h0 : 0 ≤ k) (h1 : k < 9223372036854775808) :
    bits .xor .u64 18446744073709551615 k = 18446744073709551615 - k := by
  obtain ⟨n, rfl⟩ := Int.eq_ofNat_of_zero_le h0
  show IntKind.u64.wrap ((BitVec.ofInt 64 (18446744073709551615) ^^^ BitVec.ofInt 64 (n : Int)).toNat : Int) = _
  have h1 : BitVec.ofInt 64 (18446744073709551615) = BitVec.allOnes 64 := by decide
  rw [h1, BitVec.allOnes_xor, BitVec.toNat_not, BitVec.ofInt_natCast, BitVec.toNat_ofNat, IntKind.wrap_u64]
  omega

set_option maxHeartbeats 400000 in
theorem lobits_hi (k : Int) (w : World) (h0 : 9223372036854775808 ≤ k) (h1 : k < 18446744073709551616) :
    Calls Yba.prog 13 #[.int .u64 k] w fun e w' => e = .returned (.int .u64 (k - 9223372036854775808)) ∧ w' = w := by
  go_enter Yba.func13, Yba.ntmps13
  go_wp2
  go_ret
  exact ⟨rfl, rfl⟩

set_option maxHeartbeats 400000 in
theorem lobits_lo (k : Int) (w : World) (h0 : 0 ≤ k) (h1 : k < 9223372036854775808) :
    Calls Yba.prog 13 #[.int .u64 k] w fun e w' => e = .returned (.int .u64 (18446744073709551615 - k)) ∧ w' = w := by
  go_enter Yba.func13, Yba.ntmps13
  go_wp2
  go_ret
  exact ⟨rfl, rfl⟩

set_option maxHeartbeats 400000 in
theorem ofSortKey_hi (a k : Int) (w : World) (h0 : 9223372036854775808 ≤ k) (h1 : k < 18446744073709551616) :
    Calls Yba.prog 11 #[.agg #[.int .u64 a, .int .u64 k]] w fun e w' => e = .returned (.agg #[.float .f64 a.toNat, .float .f64 (k - 9223372036854775808).toNat]) ∧ Grown w w' := by
  have hx := run_float64frombits
  go_enter Yba.func11, Yba.ntmps11
  go_wp2
  rw [andNot_top k h0 h1]
  refine bodyPost_ret (v := .agg #[.float .f64 a.toNat, .float .f64 (k - 9223372036854775808).toNat]) (by simp [results, Yba.results11, go_sem]) rfl ⟨rfl, ?_⟩
  repeat (first | exact Grown.refl _ | apply Grown.drew | apply Grown.alloc)

set_option maxHeartbeats 400000 in
theorem ofSortKey_lo (a k : Int) (w : World) (h0 : 0 ≤ k) (h1 : k < 9223372036854775808) :
    Calls Yba.prog 11 #[.agg #[.int .u64 a, .int .u64 k]] w fun e w' => e = .returned (.agg #[.float .f64 a.toNat, .float .f64 (18446744073709551615 - k).toNat]) ∧ Grown w w' := by
  have hx := run_float64frombits
  go_enter Yba.func11, Yba.ntmps11
  go_wp2
  rw [show IntKind.u64.max = 18446744073709551615 from rfl, xor_max k h0 h1]
  refine bodyPost_ret (v := .agg #[.float .f64 a.toNat, .float .f64 (18446744073709551615 - k).toNat]) (by simp [results, Yba.results11, go_sem]) rfl ⟨rfl, ?_⟩
  repeat (first | exact Grown.refl _ | apply Grown.drew | apply Grown.alloc)

set_option maxHeartbeats 400000 in
theorem exact_hi (a k : Int) (w : World) (a0 : 0 ≤ a) (h0 : 9223372036854775808 ≤ k) (h1 : k < 18446744073709551616) :
    Calls Yba.prog 4 #[.int .u64 a, .int .u64 k] w fun e w' => e = .returned (.bool true) ∧ Grown w w' := by
  have hx := run_float64bits
  go_enter Yba.func4, Yba.ntmps4
  go_wp2_with (first | (go_at_call 11; refine (ofSortKey_hi _ _ _ h0 h1).mono ?_; rintro e w' ⟨rfl, hg⟩) | (go_at_call 13; refine (lobits_hi _ _ h0 h1).mono ?_; rintro e w' ⟨rfl, rfl⟩))
  have em : (max (k - 9223372036854775808) 0 == k - 9223372036854775808) = true := by rw [beq_iff_eq]; omega
  rw [em]
  go_ret
  exact ⟨rfl, hg.alloc _ _⟩

set_option maxHeartbeats 400000 in
theorem exact_lo (a k : Int) (w : World) (a0 : 0 ≤ a) (h0 : 0 ≤ k) (h1 : k < 9223372036854775808) :
    Calls Yba.prog 4 #[.int .u64 a, .int .u64 k] w fun e w' => e = .returned (.bool true) ∧ Grown w w' := by
  have hx := run_float64bits
  go_enter Yba.func4, Yba.ntmps4
  go_wp2_with (first | (go_at_call 11; refine (ofSortKey_lo _ _ _ h0 h1).mono ?_; rintro e w' ⟨rfl, hg⟩) | (go_at_call 13; refine (lobits_lo _ _ h0 h1).mono ?_; rintro e w' ⟨rfl, rfl⟩))
  have em : (max (18446744073709551615 - k) 0 == 18446744073709551615 - k) = true := by rw [beq_iff_eq]; omega
  rw [em]
  go_ret
  exact ⟨rfl, hg.alloc _ _⟩
end Go.Proofs.Ybulkcome
