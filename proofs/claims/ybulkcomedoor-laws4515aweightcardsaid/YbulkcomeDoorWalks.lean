import Derived.Test.YbulkcomeDoorRows
import Derived.Test.YbulkcomeDoorFloat
import Derived.WalkKit
import Derived.WalkSpells
import Derived.WalkLawsBesides
namespace Go.Proofs.YbulkcomeDoor
open Go.RowKit

theorem hide {p : Prop} (h : p) : Hid p := h

theorem run_store_float {P : Program} {w : World} {a : Addr} {m : Mode} (k : FloatKind) (n : Nat) : (store a (.float k n) m).run P w = stored P w a (.float k n) m := run_store P w a _ m rfl
attribute [local go_sem] run_store_float

theorem run_float64bits (b : Nat) (w : World) : (callFunc 10 #[.float .f64 b]).run Ybad.prog w = .ok (.value (.int .u64 b)) w := by
  rw [run_callFunc_extern (P := Ybad.prog) (f := 10) (fn := Ybad.f10) (e := Extern.MathFloatBits.float64bits) Ybad.func10 (by kernel_rfl) (by kernel_rfl) (by kernel_rfl) (by kernel_rfl)]
  rfl

theorem run_float64frombits (n : Int) (w : World) : (callFunc 9 #[.int .u64 n]).run Ybad.prog w = .ok (.value (.float .f64 n.toNat)) w := by
  rw [run_callFunc_extern (P := Ybad.prog) (f := 9) (fn := Ybad.f9) (e := Extern.MathFloatBits.float64frombits) Ybad.func9 (by kernel_rfl) (by kernel_rfl) (by kernel_rfl) (by kernel_rfl)]
  rfl

set_option maxHeartbeats 400000 in
theorem abs_any (z : Nat) (w : World) :
    Calls Ybad.prog 8 #[.float .f64 z] w fun e w' => e = .returned (.float .f64 (z % 9223372036854775808)) ∧ w' = w := by
  have hx := run_float64bits
  have hy := run_float64frombits
  go_enter Ybad.func8, Ybad.ntmps8
  go_wp2
  rw [Fl.abs_bits]
  go_ret
  exact ⟨rfl, rfl⟩

set_option maxHeartbeats 400000 in
theorem nodes_f (x : Nat) (n : Nat) (bn bx : Nat) (w : World) (hn : n < 16) (hc : w.cell? ⟨bn, 0, none⟩ = some (.int .i64 n)) (hf : w.frozen? ⟨bn, 0, none⟩ = false)
    (v : Value) (hx : w.cell? ⟨bx, n, none⟩ = some v) (hfx : w.frozen? ⟨bx, n, none⟩ = false) (hne : bn ≠ bx) :
    Calls Ybad.prog 5 #[.float .f64 x, .pointer (some ⟨bn, 0, none⟩), .pointer (some ⟨bx, 0, none⟩)] w fun e w' => e = .returned (.float .f64 0) ∧ w' = (w.setCell ⟨bx, n, none⟩ (.float .f64 x)).setCell ⟨bn, 0, none⟩ (.int .i64 ((n : Int) + 1)) := by
  go_enter Ybad.func5, Ybad.ntmps5
  go_wp2
  go_ret
  exact ⟨rfl, rfl⟩

set_option maxHeartbeats 400000 in
theorem weight_f (x cf : Nat) (n k : Nat) (bn bk bc : Nat) (w : World) (hn : n < 16) (hc : w.cell? ⟨bn, 0, none⟩ = some (.int .i64 n)) (hf : w.frozen? ⟨bn, 0, none⟩ = false)
    (hk : w.cell? ⟨bk, 0, none⟩ = some (.int .i64 k)) (hcf : w.cell? ⟨bc, 0, none⟩ = some (.float .f64 cf)) :
    Calls Ybad.prog 7 #[.float .f64 x, .pointer (some ⟨bn, 0, none⟩), .pointer (some ⟨bk, 0, none⟩), .pointer (some ⟨bc, 0, none⟩)] w fun e w' => e = .returned (.float .f64 (if n = k then cf else 0)) ∧ w' = w.setCell ⟨bn, 0, none⟩ (.int .i64 ((n : Int) + 1)) := by
  by_cases h : n = k
  · subst h
    go_enter Ybad.func7, Ybad.ntmps7
    go_wp2
    go_ret
    exact ⟨rfl, rfl⟩
  · have hb : ((n : Int) == (k : Int)) = false := by rw [beq_eq_false_iff_ne]; omega
    go_enter Ybad.func7, Ybad.ntmps7
    go_wp2
    go_ret
    exact ⟨rfl, rfl⟩
end Go.Proofs.YbulkcomeDoor
