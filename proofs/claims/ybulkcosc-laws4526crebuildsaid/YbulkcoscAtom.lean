import Derived.Test.YbulkcoscProg
import Derived.WalkKit
import Derived.Below
import Derived.Deep.DeepCutAuto
import Derived.Laws.LoneSync
import Derived.LaidEql
namespace Go.Proofs.Ybulkcosc
open Go.RowKit

/-- the pointer of a slot -/
def pv (p : Option Nat) : Value := .pointer (p.map fun b => ⟨b, 0, none⟩)

/-- a block of one variable of type t with n cells -/
def Vb (w : World) (t n b : Nat) : Prop := ∃ cs, w.heap[b]? = some (.cells cs t (0, 0)) ∧ cs.size = n

theorem at38 : liesAt Yba.prog Yba.prog.depth 38 1 0 38 1 = true := by kernel_rfl
theorem at40 : liesAt Yba.prog Yba.prog.depth 40 1 0 40 1 = true := by kernel_rfl
theorem c38 : Yba.prog.cellsOf 38 = 1 := by kernel_rfl
theorem c40 : Yba.prog.cellsOf 40 = 2 := by kernel_rfl
theorem s38 : (Yba.prog.info? 38).map (fun i => decide (i.size = 0)) = some false := by kernel_rfl
theorem s40 : (Yba.prog.info? 40).map (fun i => decide (i.size = 0)) = some false := by kernel_rfl

theorem Vb.shape {w : World} {t n b : Nat} (h : Vb w t n b) : w.shape? b = some (t, n) := by
  obtain ⟨cs, h, rfl⟩ := h
  unfold World.shape?
  rw [h]

theorem conv_to (src t n : Nat) (hs : Yba.prog.underlying src = some (.pointer t)) (hsz : (Yba.prog.info? t).map (fun i => decide (i.size = 0)) = some false) (hn : 0 < n) (p : Option Nat) (w : World) (hp : ∀ b, p = some b → Vb w t n b) :
    (convert src 28 (pv p)).run Yba.prog w = .ok (pv p) w := by
  cases p with
  | none =>
    simp only [pv, Option.map_none]
    simp [convert, run_underlying hs, run_underlying Yba.underlying28, Result.andThen]
    change Sem.run Yba.prog (underlying src >>= _) w = _
    simp [run_underlying hs, run_underlying Yba.underlying28, Result.andThen]
  | some b =>
    have hsh := (hp b rfl).shape
    obtain ⟨i, hi, hz0⟩ := Option.map_eq_some_iff.1 hsz
    have hz : i.size ≠ 0 := by simpa using hz0
    have hge : ¬ (n = 0) := by omega
    simp only [pv, Option.map_some]
    simp [convert, run_underlying hs, run_underlying Yba.underlying28, Result.andThen]
    change Sem.run Yba.prog (underlying src >>= _) w = _
    simp [Conv.seenAt, viewAt, cellsIn, sizeOf, typeInfo, run_underlying hs, run_underlying Yba.underlying28, hi, hz, hsh, hge, Result.andThen]

theorem conv_from (dst t n : Nat) (hd : Yba.prog.underlying dst = some (.pointer t)) (hsz : (Yba.prog.info? t).map (fun i => decide (i.size = 0)) = some false) (hc : Yba.prog.cellsOf t = n) (hn : 0 < n) (hl : liesAt Yba.prog Yba.prog.depth t 1 0 t 1 = true) (p : Option Nat) (w : World) (hp : ∀ b, p = some b → Vb w t n b) :
    (convert 28 dst (pv p)).run Yba.prog w = .ok (pv p) w := by
  cases p with
  | none =>
    simp only [pv, Option.map_none]
    simp [convert, run_underlying hd, run_underlying Yba.underlying28, Result.andThen]
    change Sem.run Yba.prog (underlying 28 >>= _) w = _
    simp [run_underlying hd, run_underlying Yba.underlying28, Result.andThen]
  | some b =>
    have hsh := (hp b rfl).shape
    obtain ⟨i, hi, hz0⟩ := Option.map_eq_some_iff.1 hsz
    have hz : i.size ≠ 0 := by simpa using hz0
    have hdv : n / n = 1 := Nat.div_self hn
    simp only [pv, Option.map_some]
    simp [convert, run_underlying hd, run_underlying Yba.underlying28, Result.andThen]
    change Sem.run Yba.prog (underlying 28 >>= _) w = _
    simp [Conv.seenAt, viewAt, variablesAt, sizeOf, typeInfo, run_underlying hd, run_underlying Yba.underlying28, hi, hz, hsh, hc, hdv, hl, Result.andThen]

theorem ld64 {a : Addr} {x : Int} {w : World} (hc : w.cell? a = some (.int .u64 x)) : (callFunc 14 #[.pointer (some a)]).run Yba.prog w = .ok (.value (.int .u64 x)) w :=
  run_call_load Yba.func14 (by kernel_rfl) (by kernel_rfl) (by kernel_rfl) .u64 (by kernel_rfl) hc
theorem st64 {a : Addr} {y : Int} {u : Value} {w : World} (hc : w.cell? a = some u) (hz : w.frozen? a = false) : (callFunc 11 #[.pointer (some a), .int .u64 y]).run Yba.prog w = .ok (.value (.tuple #[])) (w.setCell a (.int .u64 y)) :=
  run_call_store Yba.func11 (by kernel_rfl) (by kernel_rfl) (by kernel_rfl) (by kernel_rfl) hc hz
theorem ldp {a : Addr} {p : Option Nat} {w : World} (hc : w.cell? a = some (pv p)) : (callFunc 13 #[.pointer (some a)]).run Yba.prog w = .ok (.value (pv p)) w := by
  rw [run_callFunc_extern Yba.func13 (by kernel_rfl) (by kernel_rfl) (by kernel_rfl) (e := Extern.Atomic.loadT .ptr) (by kernel_rfl)]
  change (Sem.run Yba.prog (do Extern.Atomic.read .ptr (← asAddr (.pointer (some a)))) w).andThen _ = _
  unfold pv at *
  simp [Extern.Atomic.read, asAddr, hc, Result.andThen]
theorem stp {a : Addr} {p : Option Nat} {u : Value} {w : World} (hc : w.cell? a = some u) (hz : w.frozen? a = false) : (callFunc 12 #[.pointer (some a), pv p]).run Yba.prog w = .ok (.value (.tuple #[])) (w.setCell a (pv p)) := by
  rw [run_callFunc_extern Yba.func12 (by kernel_rfl) (by kernel_rfl) (by kernel_rfl) (e := Extern.Atomic.storeT) (by kernel_rfl)]
  change (Sem.run Yba.prog (do
    store (← asAddr (.pointer (some a))) (pv p) .atomic
    pure Extern.Atomic.none_) w).andThen _ = _
  simp [asAddr, hc, hz, run_store Yba.prog w a (pv p) .atomic rfl, Result.andThen, Extern.Atomic.none_]

set_option maxHeartbeats 1000000 in
theorem c7 (b o : Nat) (x : Int) (w : World) (hc : w.cell? ⟨b, o, none⟩ = some (.int .u64 x)) :
    Calls Yba.prog 7 #[.pointer (some ⟨b, o, none⟩)] w fun e w' => e = .returned (.int .u64 x) ∧ w' = w := by
  have hx := ld64 hc
  go_enter Yba.func7, Yba.ntmps7
  go_wp2
  go_ret
  exact ⟨rfl, rfl⟩
set_option maxHeartbeats 1000000 in
theorem c4 (b o : Nat) (x : Int) (u : Value) (w : World) (hc : w.cell? ⟨b, o, none⟩ = some u) (hz : w.frozen? ⟨b, o, none⟩ = false) :
    Calls Yba.prog 4 #[.pointer (some ⟨b, o, none⟩), .int .u64 x] w fun e w' => e = .returned (.tuple #[]) ∧ w' = w.setCell ⟨b, o, none⟩ (.int .u64 x) := by
  have hx := st64 (y := x) hc hz
  go_enter Yba.func4, Yba.ntmps4
  go_wp2
  go_end0
  exact ⟨rfl, rfl⟩
set_option maxHeartbeats 1000000 in
theorem c6 (b o : Nat) (p : Option Nat) (w : World) (hc : w.cell? ⟨b, o, none⟩ = some (pv p)) (hp : ∀ b, p = some b → Vb w 38 1 b) :
    Calls Yba.prog 6 #[.pointer (some ⟨b, o, none⟩)] w fun e w' => e = .returned (pv p) ∧ w' = w := by
  have hx := ldp hc
  have hy := conv_from 36 38 1 Yba.underlying36 s38 c38 (by decide) at38 p w hp
  unfold pv at *
  go_enter Yba.func6, Yba.ntmps6
  go_wp2
  go_ret
  exact ⟨rfl, rfl⟩
set_option maxHeartbeats 1000000 in
theorem c10 (b o : Nat) (p : Option Nat) (w : World) (hc : w.cell? ⟨b, o, none⟩ = some (pv p)) (hp : ∀ b, p = some b → Vb w 40 2 b) :
    Calls Yba.prog 10 #[.pointer (some ⟨b, o, none⟩)] w fun e w' => e = .returned (pv p) ∧ w' = w := by
  have hx := ldp hc
  have hy := conv_from 24 40 2 Yba.underlying24 s40 c40 (by decide) at40 p w hp
  unfold pv at *
  go_enter Yba.func10, Yba.ntmps10
  go_wp2
  go_ret
  exact ⟨rfl, rfl⟩
set_option maxHeartbeats 1000000 in
theorem c5 (b o : Nat) (p : Option Nat) (u : Value) (w : World) (hc : w.cell? ⟨b, o, none⟩ = some u) (hz : w.frozen? ⟨b, o, none⟩ = false) (hp : ∀ b, p = some b → Vb w 38 1 b) :
    Calls Yba.prog 5 #[.pointer (some ⟨b, o, none⟩), pv p] w fun e w' => e = .returned (.tuple #[]) ∧ w' = w.setCell ⟨b, o, none⟩ (pv p) := by
  have hx := stp (p := p) hc hz
  have hy := conv_to 36 38 1 Yba.underlying36 s38 (by decide) p w hp
  unfold pv at *
  go_enter Yba.func5, Yba.ntmps5
  go_wp2
  go_end0
  exact ⟨rfl, rfl⟩
set_option maxHeartbeats 1000000 in
theorem c8 (b o : Nat) (p : Option Nat) (u : Value) (w : World) (hc : w.cell? ⟨b, o, none⟩ = some u) (hz : w.frozen? ⟨b, o, none⟩ = false) (hp : ∀ b, p = some b → Vb w 40 2 b) :
    Calls Yba.prog 8 #[.pointer (some ⟨b, o, none⟩), pv p] w fun e w' => e = .returned (.tuple #[]) ∧ w' = w.setCell ⟨b, o, none⟩ (pv p) := by
  have hx := stp (p := p) hc hz
  have hy := conv_to 24 40 2 Yba.underlying24 s40 (by decide) p w hp
  unfold pv at *
  go_enter Yba.func8, Yba.ntmps8
  go_wp2
  go_end0
  exact ⟨rfl, rfl⟩

/-! ### pointers compared -/
theorem eqIn_ptr (t te : Nat) (hu : Yba.prog.underlying t = some (.pointer te)) (hsz : (Yba.prog.info? te).map (fun i => decide (i.size = 0)) = some false) {w : World} {a b ta na tb nb : Nat} (ha : Vb w ta na a) (hb : Vb w tb nb b) (d : Nat) :
    (Op.equalIn (d + 1) t (.pointer (some ⟨a, 0, none⟩)) (.pointer (some ⟨b, 0, none⟩))).run Yba.prog w = .ok (a == b) w := by
  obtain ⟨i, h1, h2⟩ := Option.map_eq_some_iff.1 hsz
  have hz : i.size ≠ 0 := by simpa using h2
  by_cases e : a = b
  · subst e
    simp [Op.equalIn, run_underlying hu, sizeOf, typeInfo, h1, run_sameAddr_same]
  · obtain ⟨ca, ha, _⟩ := ha
    obtain ⟨cb, hb, _⟩ := hb
    have hne : (⟨a, 0, none⟩ : Addr) ≠ ⟨b, 0, none⟩ := by intro h; injection h with h; exact e h
    simp [Op.equalIn, run_underlying hu, sizeOf, typeInfo, h1, hz, run_sameAddr_other w hne ha hb, e]
theorem eql_ptr (t te : Nat) (hu : Yba.prog.underlying t = some (.pointer te)) (hsz : (Yba.prog.info? te).map (fun i => decide (i.size = 0)) = some false) {w : World} {a b ta na tb nb : Nat} (ha : Vb w ta na a) (hb : Vb w tb nb b) :
    (binOp .eql t (.pointer (some ⟨a, 0, none⟩)) (.pointer (some ⟨b, 0, none⟩))).run Yba.prog w = .ok (.bool (a == b)) w := by
  simp only [binOp]
  simp [Op.equal, Op.maxDepth, eqIn_ptr t te hu hsz ha hb 9999]
theorem neq_ptr (t te : Nat) (hu : Yba.prog.underlying t = some (.pointer te)) (hsz : (Yba.prog.info? te).map (fun i => decide (i.size = 0)) = some false) {w : World} {a b ta na tb nb : Nat} (ha : Vb w ta na a) (hb : Vb w tb nb b) :
    (binOp .neq t (.pointer (some ⟨a, 0, none⟩)) (.pointer (some ⟨b, 0, none⟩))).run Yba.prog w = .ok (.bool (!(a == b))) w := by
  simp only [binOp]
  simp [Op.equal, Op.maxDepth, eqIn_ptr t te hu hsz ha hb 9999]
theorem eqIn_nil (t te : Nat) (hu : Yba.prog.underlying t = some (.pointer te)) (p : Option Addr) (w : World) (d : Nat) : (Op.equalIn (d + 1) t (.pointer p) (.pointer none)).run Yba.prog w = .ok p.isNone w := by
  cases p <;> simp [Op.equalIn, run_underlying hu, samePointer]
theorem eql_nil (t te : Nat) (hu : Yba.prog.underlying t = some (.pointer te)) (p : Option Addr) (w : World) : (binOp .eql t (.pointer p) (.pointer none)).run Yba.prog w = .ok (.bool p.isNone) w := by
  simp only [binOp]
  simp [Op.equal, Op.maxDepth, eqIn_nil t te hu p w 9999]
theorem neq_nil (t te : Nat) (hu : Yba.prog.underlying t = some (.pointer te)) (p : Option Addr) (w : World) : (binOp .neq t (.pointer p) (.pointer none)).run Yba.prog w = .ok (.bool (!p.isNone)) w := by
  simp only [binOp]
  simp [Op.equal, Op.maxDepth, eqIn_nil t te hu p w 9999]
theorem eq0 (w : World) : (binOp .eql 36 (.pointer none) (.pointer none)).run Yba.prog w = .ok (.bool true) w := eql_nil 36 38 Yba.underlying36 none w
theorem eq1 (a : Addr) (w : World) : (binOp .eql 36 (.pointer (some a)) (.pointer none)).run Yba.prog w = .ok (.bool false) w := eql_nil 36 38 Yba.underlying36 (some a) w
theorem ne0 (w : World) : (binOp .neq 36 (.pointer none) (.pointer none)).run Yba.prog w = .ok (.bool false) w := neq_nil 36 38 Yba.underlying36 none w
theorem ne1 (a : Addr) (w : World) : (binOp .neq 36 (.pointer (some a)) (.pointer none)).run Yba.prog w = .ok (.bool true) w := neq_nil 36 38 Yba.underlying36 (some a) w
theorem te0 (w : World) : (binOp .eql 24 (.pointer none) (.pointer none)).run Yba.prog w = .ok (.bool true) w := eql_nil 24 40 Yba.underlying24 none w
theorem te1 (a : Addr) (w : World) : (binOp .eql 24 (.pointer (some a)) (.pointer none)).run Yba.prog w = .ok (.bool false) w := eql_nil 24 40 Yba.underlying24 (some a) w
theorem tn0 (w : World) : (binOp .neq 24 (.pointer none) (.pointer none)).run Yba.prog w = .ok (.bool false) w := neq_nil 24 40 Yba.underlying24 none w
theorem tn1 (a : Addr) (w : World) : (binOp .neq 24 (.pointer (some a)) (.pointer none)).run Yba.prog w = .ok (.bool true) w := neq_nil 24 40 Yba.underlying24 (some a) w
theorem eqp {w : World} {a b ta na tb nb : Nat} (ha : Vb w ta na a) (hb : Vb w tb nb b) : (binOp .eql 36 (.pointer (some ⟨a, 0, none⟩)) (.pointer (some ⟨b, 0, none⟩))).run Yba.prog w = .ok (.bool (a == b)) w := eql_ptr 36 38 Yba.underlying36 s38 ha hb
theorem nep {w : World} {a b ta na tb nb : Nat} (ha : Vb w ta na a) (hb : Vb w tb nb b) : (binOp .neq 36 (.pointer (some ⟨a, 0, none⟩)) (.pointer (some ⟨b, 0, none⟩))).run Yba.prog w = .ok (.bool (!(a == b))) w := neq_ptr 36 38 Yba.underlying36 s38 ha hb
theorem tep {w : World} {a b ta na tb nb : Nat} (ha : Vb w ta na a) (hb : Vb w tb nb b) : (binOp .eql 24 (.pointer (some ⟨a, 0, none⟩)) (.pointer (some ⟨b, 0, none⟩))).run Yba.prog w = .ok (.bool (a == b)) w := eql_ptr 24 40 Yba.underlying24 s40 ha hb
theorem tnp {w : World} {a b ta na tb nb : Nat} (ha : Vb w ta na a) (hb : Vb w tb nb b) : (binOp .neq 24 (.pointer (some ⟨a, 0, none⟩)) (.pointer (some ⟨b, 0, none⟩))).run Yba.prog w = .ok (.bool (!(a == b))) w := neq_ptr 24 40 Yba.underlying24 s40 ha hb
end Go.Proofs.Ybulkcosc
