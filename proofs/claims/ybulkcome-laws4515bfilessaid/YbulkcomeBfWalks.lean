import Derived.Test.YbulkcomeRows
import Derived.WalkKit
import Derived.WalkSpells
import Derived.WalkLawsBesides
import Derived.BigQuiet
import Derived.BigRegion
import Derived.Deep.QuietTactic
import Derived.Deep.RegionWith
import Derived.Deep.RegionHeld3
import Derived.Deep.AppendLies
import Derived.Great.Walk
import Derived.Laws.FloatArith
namespace Go.Proofs.Ybulkcome
open Go.RowKit

theorem hide {p : Prop} (h : p) : Hid p := h
theorem bdrewN {B : Nat} {a w : World} (h : Below B a w) (n : Nat) : Below B a (w.drewN n) := h.trans ⟨rfl, rfl, rfl, Nat.le_refl _, fun _ _ => rfl⟩
theorem bf_store_float {P : Program} {w : World} {a : Addr} {m : Mode} (k : FloatKind) (n : Nat) : (store a (.float k n) m).run P w = stored P w a (.float k n) m := run_store P w a _ m rfl
attribute [local go_sem] bf_store_float

/-- a float operation of whatever operands: its bits, and how often it draws (a NaN's bits are open) -/
def fv (op : BinOp) (x y : Nat) (w : World) : Nat := match floatBits op .f64 x y with
  | some r => r
  | none => (Question.nanBits .f64 x y).cut (w.tape w.drawn (.nanBits .f64 x y))
def fc (op : BinOp) (x y : Nat) : Nat := match floatBits op .f64 x y with
  | some _ => 0
  | none => 1

theorem run_fany {P : Program} (op : BinOp) (h : op = .add ∨ op = .sub ∨ op = .mul) (t : TypeId) (x y : Nat) (w : World) :
    (binOp op t (.float .f64 x) (.float .f64 y)).run P w = .ok (.float .f64 (fv op x y w)) (w.drewN (fc op x y)) := by
  cases hb : floatBits op .f64 x y with
  | some r =>
    rw [run_float_arith w op t .f64 x y r hb]
    simp [fv, fc, hb, World.drewN_zero]
  | none =>
    simp only [fv, fc, hb]
    unfold floatBits at hb
    rcases h with rfl | rfl | rfl <;> simp only at hb <;> simp [binOp, Op.floatArith, hb, Question.forced, World.drew_is_drewN]

theorem run_fadd {P : Program} (t : TypeId) (x y : Nat) (w : World) : (binOp .add t (.float .f64 x) (.float .f64 y)).run P w = .ok (.float .f64 (fv .add x y w)) (w.drewN (fc .add x y)) := run_fany .add (Or.inl rfl) t x y w
theorem run_fsub {P : Program} (t : TypeId) (x y : Nat) (w : World) : (binOp .sub t (.float .f64 x) (.float .f64 y)).run P w = .ok (.float .f64 (fv .sub x y w)) (w.drewN (fc .sub x y)) := run_fany .sub (Or.inr (Or.inl rfl)) t x y w
theorem run_fmul {P : Program} (t : TypeId) (x y : Nat) (w : World) : (binOp .mul t (.float .f64 x) (.float .f64 y)).run P w = .ok (.float .f64 (fv .mul x y w)) (w.drewN (fc .mul x y)) := run_fany .mul (Or.inr (Or.inr rfl)) t x y w

theorem run_fneg {P : Program} (x : Nat) (w : World) : (Op.unary .neg (.float .f64 x)).run P w = .ok (.float .f64 (Op.negFloat .f64 x)) w := rfl

set_option maxHeartbeats 400000 in
theorem nearSub_any (a b c d : Nat) (w : World) :
    Calls Yba.prog 30 #[.agg #[.float .f64 a, .float .f64 b], .agg #[.float .f64 c, .float .f64 d]] w fun e w' => ∃ r, e = .returned (.float .f64 r) ∧ Below w.heap.size w w' := by
  have f1 := @run_fsub Yba.prog
  have f2 := @run_fadd Yba.prog
  go_enter Yba.func30, Yba.ntmps30
  go_wp2
  go_ret
  exact ⟨_, rfl, bdrewN (((Below.refl _ _).alloc (Nat.le_refl _) _).alloc (by simp) _) _⟩

set_option maxHeartbeats 400000 in
theorem slack_any (a b c : Nat) (w : World) :
    Calls Yba.prog 28 #[.agg #[.float .f64 a, .float .f64 b], .float .f64 c] w fun e w' => ∃ r, e = .returned (.float .f64 r) ∧ Below w.heap.size w w' := by
  have f1 := @run_fmul Yba.prog
  have f2 := @run_fadd Yba.prog
  go_enter Yba.func28, Yba.ntmps28
  go_wp2
  go_ret
  exact ⟨_, rfl, bdrewN ((Below.refl _ _).alloc (Nat.le_refl _) _) _⟩

theorem bcellOf {w w' : World} (h : Below w.heap.size w w') {a : Addr} {v : Value} (hc : w.cell? a = some v) : w'.cell? a = some v := by
  rw [h.cell (World.block_lt_of_cell? w a hc)]; exact hc

/-- what 'before' reads of a job -/
structure JobK (w : World) (b : Nat) (k0 k1 k2 : Nat) (sq : Int) : Prop where
  c47 : w.cell? ⟨b, 47, none⟩ = some (.float .f64 k0)
  c48 : w.cell? ⟨b, 48, none⟩ = some (.float .f64 k1)
  c49 : w.cell? ⟨b, 49, none⟩ = some (.float .f64 k2)
  c14 : w.cell? ⟨b, 14, none⟩ = some (.int .i64 sq)

/-- a block of cells of which none is frozen -/
def Zb (w : World) (b : Nat) : Prop := ∃ cs t, w.heap[b]? = some (.cells cs t (0, 0))
theorem Zb.lt {w : World} {b : Nat} (h : Zb w b) : b < w.heap.size := by
  obtain ⟨cs, t, h⟩ := h
  rcases Nat.lt_or_ge b w.heap.size with hlt | hge
  · exact hlt
  · rw [Array.getElem?_eq_none hge] at h; cases h
theorem Zb.of_block {w w' : World} {b : Nat} (h : Zb w b) (e : w'.heap[b]? = w.heap[b]?) : Zb w' b := by
  obtain ⟨cs, t, h⟩ := h
  exact ⟨cs, t, by rw [e]; exact h⟩

def IsJob (w : World) (b : Nat) : Prop := (∃ k0 k1 k2 sq, JobK w b k0 k1 k2 sq) ∧ Zb w b

theorem IsJob.below {w w' : World} {b : Nat} (h : IsJob w b) (hb : Below w.heap.size w w') : IsJob w' b := by
  obtain ⟨⟨k0, k1, k2, sq, h⟩, hz⟩ := h
  exact ⟨⟨k0, k1, k2, sq, bcellOf hb h.c47, bcellOf hb h.c48, bcellOf hb h.c49, bcellOf hb h.c14⟩, hz.of_block (hb.block b hz.lt)⟩

set_option maxHeartbeats 1000000 in
theorem before_any (ja jb : Nat) (w : World) (ha : IsJob w ja) (hb : IsJob w jb) :
    Calls Yba.prog 29 #[.pointer (some ⟨ja, 0, none⟩), .pointer (some ⟨jb, 0, none⟩)] w fun e w' => ∃ r, e = .returned (.bool r) ∧ Below w.heap.size w w' := by
  obtain ⟨⟨a0, a1, a2, a3, ha⟩, _⟩ := ha
  obtain ⟨⟨b0, b1, b2, b3, hb⟩, _⟩ := hb
  have p0 := ha.c47
  have p1 := ha.c48
  have p2 := ha.c49
  have q0 := hb.c47
  have q1 := hb.c48
  have q2 := hb.c49
  have f2 := @run_fadd Yba.prog
  have HA := hide ha
  have HB := hide hb
  clear ha hb
  go_enter Yba.func29, Yba.ntmps29
  go_wp2_with fail
  go_region_held (fun w' => w'.cell? ⟨ja, 47, none⟩ = some (.float .f64 a0) ∧ w'.cell? ⟨ja, 48, none⟩ = some (.float .f64 a1) ∧ w'.cell? ⟨ja, 49, none⟩ = some (.float .f64 a2) ∧ w'.cell? ⟨jb, 47, none⟩ = some (.float .f64 b0) ∧ w'.cell? ⟨jb, 48, none⟩ = some (.float .f64 b1) ∧ w'.cell? ⟨jb, 49, none⟩ = some (.float .f64 b2))
    (first | (simp [*]; done) | (refine ⟨?_, ?_, ?_, ?_, ?_, ?_⟩ <;> exact bcellOf (by assumption) (by simp [*])))
    (first | (go_at_call 30; refine (nearSub_any _ _ _ _ _).mono ?_; rintro e w2 ⟨r, rfl, hbe⟩))
  · have hb2 : Below w.heap.size w w2 := (Below.refl _ _).drew.trans hbe
    clear hbe
    generalize fv BinOp.add a2 b2 w2 = s2
    generalize fc BinOp.add a2 b2 = n2
    have s0 := bcellOf hb2 HA.out.c14
    have s1 := bcellOf hb2 HB.out.c14
    have HB2 := hide hb2
    clear hb2 p0 p1 p2 q0 q1 q2 HA HB f2
    have f3 := @run_fneg Yba.prog
    go_wp2_with fail
    · go_quiet (fail)
      go_wp2
      go_ret
      exact ⟨_, rfl, by repeat (first | exact HB2.out | apply bdrewN)⟩
    all_goals
      go_ret
      exact ⟨_, rfl, by repeat (first | exact HB2.out | apply bdrewN)⟩
  · have hb2 : Below w.heap.size w w2 := (bdrewN (Below.refl w.heap.size w) _).trans hbe
    clear hbe
    generalize fv BinOp.add a2 b2 w.drew = s2
    have s0 := bcellOf hb2 HA.out.c14
    have s1 := bcellOf hb2 HB.out.c14
    have HB2 := hide hb2
    clear hb2 p0 p1 p2 q0 q1 q2 HA HB f2
    have f3 := @run_fneg Yba.prog
    go_wp2_with fail
    · go_quiet (fail)
      go_wp2
      go_ret
      exact ⟨_, rfl, by repeat (first | exact HB2.out | apply bdrewN)⟩
    all_goals
      go_ret
      exact ⟨_, rfl, by repeat (first | exact HB2.out | apply bdrewN)⟩

set_option maxHeartbeats 1000000 in
theorem jobFirst_any (qb i p ja jb : Nat) (w : World) (hi : w.cell? ⟨qb, i, none⟩ = some (.pointer (some ⟨ja, 0, none⟩))) (hp : w.cell? ⟨qb, p, none⟩ = some (.pointer (some ⟨jb, 0, none⟩))) (ha : IsJob w ja) (hb : IsJob w jb) :
    Calls Yba.prog 26 #[.pointer (some ⟨qb, i, none⟩), .pointer (some ⟨qb, p, none⟩)] w fun e w' => ∃ r, e = .returned (.bool r) ∧ Below w.heap.size w w' := by
  have HA := hide ha
  have HB := hide hb
  clear ha hb
  go_enter Yba.func26, Yba.ntmps26
  go_wp2_with fail
  go_region_held (fun w' => w'.cell? ⟨qb, i, none⟩ = some (.pointer (some ⟨ja, 0, none⟩)) ∧ w'.cell? ⟨qb, p, none⟩ = some (.pointer (some ⟨jb, 0, none⟩)))
    (first | (simp [*]; done) | (refine ⟨?_, ?_⟩ <;> exact bcellOf (by assumption) (by simp [*])))
    (first | (go_at_call 29; refine (before_any _ _ _ (HA.out.below (Below.refl _ _).drew) (HB.out.below (Below.refl _ _).drew)).mono ?_; rintro e w2 ⟨r, rfl, hbe⟩))
  have hb2 : Below w.heap.size w w2 := (Below.refl _ _).drew.trans hbe
  go_wp2
  go_ret
  exact ⟨_, rfl, hb2⟩
end Go.Proofs.Ybulkcome
