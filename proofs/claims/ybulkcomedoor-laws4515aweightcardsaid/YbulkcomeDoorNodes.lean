import Derived.Test.YbulkcomeDoorKron
import Derived.Shelf.Abstract
namespace Go.Proofs.YbulkcomeDoor
open Go.RowKit
attribute [local go_sem] run_store_float

structure NS (w : World) (X : Nat → Nat) (j : Nat) (w' : World) : Prop where
  be : Below w.heap.size w w'
  sz : w'.heap.size = w.heap.size + 3
  cn : w'.cell? ⟨w.heap.size + 1, 0, none⟩ = some (.int .i64 j)
  fn : w'.frozen? ⟨w.heap.size + 1, 0, none⟩ = false
  cx : ∀ i, i < 16 → w'.cell? ⟨w.heap.size, i, none⟩ = some (.float .f64 (if i < j then X i else 0))
  fx : ∀ i, w'.frozen? ⟨w.heap.size, i, none⟩ = false
  ow : Own (w.heap.size + 2) w'

theorem Tabs.below {nd wt gt : Nat → Nat} {w w' : World} (h : Tabs nd wt gt w) (h3 : 3 ≤ w.heap.size) (hb : Below w.heap.size w w') : Tabs nd wt gt w' where
  c0 i hi := by rw [hb.cell (by show 0 < _; omega)]; exact h.c0 i hi
  c1 i hi := by rw [hb.cell (by show 1 < _; omega)]; exact h.c1 i hi
  c2 i hi := by rw [hb.cell (by show 2 < _; omega)]; exact h.c2 i hi

theorem cell_other {w : World} {b o b' o' : Nat} (v : Value) (h : b ≠ b' ∨ o ≠ o') : (w.setCell ⟨b, o, none⟩ v).cell? ⟨b', o', none⟩ = w.cell? ⟨b', o', none⟩ :=
  World.cell?_setCell_other _ _ _ v (by intro e; injection e with e1 e2; omega)

theorem NS.step {w : World} {X : Nat → Nat} {j : Nat} {w' : World} (h : NS w X j w') (hj : j < 15) :
    NS w X (j + 1) ((w'.setCell ⟨w.heap.size, j, none⟩ (.float .f64 (X j))).setCell ⟨w.heap.size + 1, 0, none⟩ (.int .i64 ((j : Int) + 1))) := by
  have hc := h.cx j (by omega)
  refine ⟨(h.be.setCell (by simp) _).setCell (by simp) _, by simpa [World.setCell] using h.sz, ?_, ?_, ?_, ?_, ?_, ?_⟩
  · have : (w'.setCell ⟨w.heap.size, j, none⟩ (.float .f64 (X j))).cell? ⟨w.heap.size + 1, 0, none⟩ = some (.int .i64 j) := by rw [cell_other _ (by omega)]; exact h.cn
    rw [World.cell?_setCell_same _ _ _ this]; simp
  · simpa using h.fn
  · intro i hi
    rw [cell_other _ (by omega)]
    by_cases e : i = j
    · subst e
      rw [World.cell?_setCell_same _ _ _ hc, if_pos (by omega)]
    · rw [cell_other _ (by omega), h.cx i hi]
      by_cases l : i < j
      · rw [if_pos l, if_pos (by omega)]
      · rw [if_neg l, if_neg (by omega)]
  · intro i; simpa using h.fx i
  · intro i hi
    rw [cell_other _ (by omega), cell_other _ (by omega)]
    exact h.ow.c i hi
  · intro i hi
    simpa using h.ow.f i hi

theorem NS.drewN {w : World} {X : Nat → Nat} {j : Nat} {w' : World} (h : NS w X j w') (n : Nat) : NS w X j (w'.drewN n) :=
  ⟨⟨h.be.os, h.be.tape, h.be.output, h.be.size, h.be.block⟩, h.sz, h.cn, h.fn, h.cx, h.fx, ⟨h.ow.c, h.ow.f⟩⟩


def ndT : List Nat := [4607105455625144753, 4606724023625998889, 4605965225734814526, 4604854338687574486, 4603454224055794212, 4600982676207959394, 4596654262258109559, 0]
def wtT : List Nat := [4582267877898679408, 4589210685060899268, 4592215336686195910, 4594235588034881729, 4595257057281867100, 4596026122630074033, 4596533493192498392, 4596715409830775055]
def gtT : List Nat := [4593833207853641047, 4598710344305444420, 4600550058610600765, 4601200903213297574]
def nd (i : Nat) : Nat := ndT.getD i 0
def wt (i : Nat) : Nat := wtT.getD i 0
def gt (i : Nat) : Nat := gtT.getD i 0

theorem seven {p : Nat → Prop} (h : p 0 ∧ p 1 ∧ p 2 ∧ p 3 ∧ p 4 ∧ p 5 ∧ p 6) : ∀ i, i < 7 → p i := by
  intro i hi
  match i, hi with
  | 0, _ => exact h.1
  | 1, _ => exact h.2.1
  | 2, _ => exact h.2.2.1
  | 3, _ => exact h.2.2.2.1
  | 4, _ => exact h.2.2.2.2.1
  | 5, _ => exact h.2.2.2.2.2.1
  | 6, _ => exact h.2.2.2.2.2.2
  | n + 7, h => exact absurd h (by omega)

theorem nd_lim : ∀ i, i < 7 → Fl.Lim 1023 (nd i) := by unfold Fl.Lim; exact seven ⟨by decide, by decide, by decide, by decide, by decide, by decide, by decide⟩
theorem wt_zero : ∀ i, i < 7 → Ieee.double.mul (wt i) 0 = some 0 := seven ⟨by decide, by decide, by decide, by decide, by decide, by decide, by decide⟩
theorem gt_zero : ∀ i, i < 4 → Ieee.double.mul (gt i) 0 = some 0 := by
  intro i hi
  match i, hi with
  | 0, _ => decide
  | 1, _ => decide
  | 2, _ => decide
  | 3, _ => decide
  | n + 4, h => exact absurd h (by omega)

/-- mid, half, and the fourteen other arguments are finite -/
structure Pts (a b : Int) (mid half : Nat) (X : Nat → Nat) : Prop where
  hmid : ∃ s, Ieee.double.add (floatOfInt .f64 a) (floatOfInt .f64 b) = some s ∧ Ieee.double.div s 4611686018427387904 = some mid
  hhalf : ∃ s, Ieee.double.sub (floatOfInt .f64 b) (floatOfInt .f64 a) = some s ∧ Ieee.double.div s 4611686018427387904 = some half
  lmid : Fl.Lim 1057 mid
  lhalf : Fl.Lim 1057 half
  x0 : X 0 = mid
  round : ∀ i, i < 7 → ∃ dx, Ieee.double.mul half (nd i) = some dx ∧ Ieee.double.sub mid dx = some (X (2 * i + 1)) ∧ Ieee.double.add mid dx = some (X (2 * i + 2)) ∧ Fl.Lim 1061 (X (2 * i + 1)) ∧ Fl.Lim 1061 (X (2 * i + 2))

theorem pts (a b : Int) (ha : a.natAbs < 2 ^ 32) (hb : b.natAbs < 2 ^ 32) : ∃ mid half X, Pts a b mid half X := by
  obtain ⟨s1, e1, l1⟩ := Fl.add_lim (Fl.ofInt_lim ha) (Fl.ofInt_lim hb) (by decide) (by decide)
  obtain ⟨mid, e2, l2⟩ := Fl.half_lim l1 (by decide) (by decide)
  obtain ⟨s3, e3, l3⟩ := Fl.sub_lim (Fl.ofInt_lim hb) (Fl.ofInt_lim ha) (by decide) (by decide)
  obtain ⟨half, e4, l4⟩ := Fl.half_lim l3 (by decide) (by decide)
  refine ⟨mid, half, fun j => if j = 0 then mid else if j % 2 = 1 then (Ieee.double.sub mid ((Ieee.double.mul half (nd ((j - 1) / 2))).getD 0)).getD 0 else (Ieee.double.add mid ((Ieee.double.mul half (nd ((j - 1) / 2))).getD 0)).getD 0,
    ⟨s1, e1, e2⟩, ⟨s3, e3, e4⟩, l2, l4, rfl, fun i hi => ?_⟩
  obtain ⟨dx, e5, l5⟩ := Fl.mul_lim (R := 1059) l4 (nd_lim i hi) (by decide) (by decide) (by decide) (by decide) (by decide) (by decide) (by decide)
  obtain ⟨x1, e6, l6⟩ := Fl.sub_lim (l2.mono (by decide)) l5 (by decide) (by decide)
  obtain ⟨x2, e7, l7⟩ := Fl.add_lim (l2.mono (by decide)) l5 (by decide) (by decide)
  have i1 : (2 * i + 1 - 1) / 2 = i := by omega
  have i2 : (2 * i + 2 - 1) / 2 = i := by omega
  have j1 : ¬ (2 * i + 1 = 0) := by omega
  have j2 : ¬ (2 * i + 2 = 0) := by omega
  have k1 : (2 * i + 1) % 2 = 1 := by omega
  have k2 : ¬ (2 * i + 2) % 2 = 1 := by omega
  refine ⟨dx, e5, ?_⟩
  simp only [i1, i2, j1, j2, k1, k2, if_true, if_false, e5, Option.getD_some, e6, e7]
  exact ⟨trivial, trivial, l6, l7⟩

theorem nodes_kron {a b : Int} {mid half : Nat} {X : Nat → Nat} (h : Pts a b mid half X) :
    ∃ sm, Kron nd wt gt (floatOfInt .f64 a) (floatOfInt .f64 b) mid half (fun _ => 0) X (fun _ => 0) (fun _ => 0) sm 0 ∧ Fl.Zero sm := by
  obtain ⟨sm, e1, z1⟩ := Fl.zero_mul h.lhalf (by decide) (by decide)
  refine ⟨sm, ⟨h.hmid, h.hhalf, h.x0, by decide, by decide, fun i hi => ?_, e1, ⟨0, sm, by decide, e1, ?_⟩⟩, z1⟩
  · obtain ⟨dx, q1, q2, q3, _⟩ := h.round i hi
    exact ⟨dx, 0, 0, q1, q2, q3, by decide, wt_zero i hi, by decide, fun _ => rfl, fun _ => ⟨0, gt_zero _ (by omega), by decide⟩⟩
  · rcases z1 with rfl | rfl <;> decide

theorem bcell {W w1 : World} (hb : Below W.heap.size W w1) : (∀ b o, b < W.heap.size → w1.cell? ⟨b, o, none⟩ = W.cell? ⟨b, o, none⟩) ∧ (∀ b o, b < W.heap.size → w1.frozen? ⟨b, o, none⟩ = W.frozen? ⟨b, o, none⟩) :=
  ⟨fun b o h => hb.cell (p := ⟨b, o, none⟩) h, fun b o h => hb.frozen (p := ⟨b, o, none⟩) h⟩

def xs0 : Array Value := #[.float .f64 0, .float .f64 0, .float .f64 0, .float .f64 0, .float .f64 0, .float .f64 0, .float .f64 0, .float .f64 0, .float .f64 0, .float .f64 0, .float .f64 0, .float .f64 0, .float .f64 0, .float .f64 0, .float .f64 0, .float .f64 0]

theorem xs0_get (i : Nat) (h : i < 16) : xs0[i]? = some (.float .f64 0) := by
  match i, h with
  | 0, _ | 1, _ | 2, _ | 3, _ | 4, _ | 5, _ | 6, _ | 7, _ | 8, _ | 9, _ | 10, _ | 11, _ | 12, _ | 13, _ | 14, _ | 15, _ => rfl
  | n + 16, h => exact absurd h (by omega)

theorem four_get (i : Nat) (h : i < 4) : (#[.float .f64 0, .float .f64 0, .float .f64 0, .float .f64 0] : Array Value)[i]? = some (.float .f64 0) := by
  match i, h with
  | 0, _ | 1, _ | 2, _ | 3, _ => rfl
  | n + 4, h => exact absurd h (by omega)

theorem NS.start (w : World) (X : Nat → Nat) : NS w X 0 (((w.alloc (.cells xs0 23)).alloc (.cells #[.int .i64 0] 3)).alloc (.cells #[.float .f64 0, .float .f64 0, .float .f64 0, .float .f64 0] 26)) := by
  refine ⟨(((Below.refl _ _).alloc (Nat.le_refl _) _).alloc (by simp) _).alloc (by simp; omega) _, by simp, ?_, ?_, ?_, ?_, ?_, ?_⟩
  · rw [World.cell?_alloc_past _ _ _ (by simp), World.cell?_alloc_at _ _ _ _ (by simp)]; rfl
  · rw [World.frozen?_alloc_past _ _ _ (by simp), World.frozen?_alloc_at _ _ _ _ (by simp)]
  · intro i hi
    rw [World.cell?_alloc_past _ _ _ (by simp; omega), World.cell?_alloc_past _ _ _ (by simp), World.cell?_alloc_at _ _ _ _ rfl, xs0_get i hi, if_neg (by omega)]
  · intro i
    rw [World.frozen?_alloc_past _ _ _ (by simp; omega), World.frozen?_alloc_past _ _ _ (by simp), World.frozen?_alloc_at _ _ _ _ rfl]
  · intro i hi
    rw [World.cell?_alloc_at _ _ _ _ (by simp)]
    exact ⟨_, four_get i hi⟩
  · intro i hi
    rw [World.frozen?_alloc_at _ _ _ _ (by simp)]

theorem nodes_call (a b mid half sm : Nat) (X : Nat → Nat) (w : World) (hT : Tabs nd wt gt w) (h3 : 3 ≤ w.heap.size) (hK : Kron nd wt gt a b mid half (fun _ => 0) X (fun _ => 0) (fun _ => 0) sm 0) :
    Calls Ybad.prog 6 #[.func (.func 5) #[] #[.pointer (some ⟨w.heap.size + 1, 0, none⟩), .pointer (some ⟨w.heap.size, 0, none⟩)], .float .f64 a, .float .f64 b] ((w.alloc (.cells xs0 23)).alloc (.cells #[.int .i64 0] 3))
      fun e w' => e = .returned (.agg #[.float .f64 a, .float .f64 b, .float .f64 sm, .float .f64 0]) ∧ NS w X 15 w' := by
  have hsz : ((w.alloc (.cells xs0 23)).alloc (.cells #[.int .i64 0] 3)).heap.size = w.heap.size + 2 := by simp
  have k := kronrod_any 5 #[.pointer (some ⟨w.heap.size + 1, 0, none⟩), .pointer (some ⟨w.heap.size, 0, none⟩)] (enters_of Ybad.func5 (by kernel_rfl) rfl) nd wt gt a b mid half (fun _ => 0) X (fun _ => 0) (fun _ => 0) sm 0 hK
    (NS w X) ((w.alloc (.cells xs0 23)).alloc (.cells #[.int .i64 0] 3)) (NS.start w X) (fun j w' h => ⟨hT.below h3 h.be, by rw [hsz]; exact h.ow⟩) (fun j w' n h => h.drewN n)
    (fun j w' hj h => (nodes_f (X j) j (w.heap.size + 1) w.heap.size w' (by omega) h.cn h.fn _ (h.cx j (by omega)) (h.fx j) (by omega)).mono (fun e w'' ⟨he, hw⟩ => ⟨he, by rw [hw]; exact h.step hj⟩))
  rw [hsz] at k
  refine k.mono ?_
  rintro e w' ⟨he, w1, h1, rfl⟩
  refine ⟨he, ?_⟩
  have o0 : ∀ (w2 : World) (i : Nat) (v : Value), NS w X 15 w2 → i < 4 → NS w X 15 (w2.setCell ⟨w.heap.size + 2, i, none⟩ v) := by
    intro w2 i v h hi
    refine ⟨h.be.setCell (by simp) _, by simpa [World.setCell] using h.sz, ?_, ?_, ?_, ?_, ?_, ?_⟩
    · rw [cell_other _ (by omega)]; exact h.cn
    · simpa using h.fn
    · intro j hj; rw [cell_other _ (by omega)]; exact h.cx j hj
    · intro j; simpa using h.fx j
    · intro j hj
      by_cases e : i = j
      · subst e
        obtain ⟨u, hu⟩ := h.ow.c i hj
        exact ⟨_, World.cell?_setCell_same _ _ _ hu⟩
      · rw [cell_other _ (by omega)]; exact h.ow.c j hj
    · intro j hj; simpa using h.ow.f j hj
  exact o0 _ _ _ (o0 _ _ _ (o0 _ _ _ (o0 _ _ _ h1 (by decide)) (by decide)) (by decide)) (by decide)

set_option maxHeartbeats 1000000 in
theorem nodes_law (a b : Int) (ha : -2147483648 ≤ a) (ha2 : a ≤ 2147483647) (hb : -2147483648 ≤ b) (hb2 : b ≤ 2147483647) (w : World) (hT : Tabs nd wt gt w) (h3 : 3 ≤ w.heap.size) :
    Calls Ybad.prog 3 #[.int .i32 a, .int .i32 b] w fun e w' => e = .returned (.bool true) ∧ Below w.heap.size w w' := by
  obtain ⟨mid, half, X, hP⟩ := pts a b (by omega) (by omega)
  obtain ⟨sm, hK, hz⟩ := nodes_kron hP
  have HT := hide hT
  have HP := hide hP
  have HK := hide hK
  have HZ := hide hz
  have hmf : ∀ (fn : Fn) (first cap : Array Value) (w : World), (Instr.makeFunc fn first cap).run Ybad.prog w = .ok (.func fn first cap) w := fun _ _ _ _ => rfl
  clear hT hP hK hz
  go_enter Ybad.func3, Ybad.ntmps3
  go_wp2_with fail
  refine (nodes_call _ _ _ _ _ X w HT.out h3 HK.out).mono ?_
  rintro e w1 ⟨rfl, hs⟩
  have hsz : w.heap.size + 1 < w1.heap.size := by rw [hs.sz]; omega
  have hsz0 : w.heap.size < w1.heap.size := by omega
  have cn := hs.cn
  have o1 : FloatKind.f64.format.order (floatOfInt .f64 a) (floatOfInt .f64 a) = some .eq := Fl.order_self (Fl.ofInt_lim (by omega)) (by decide) (by decide)
  have o2 : FloatKind.f64.format.order (floatOfInt .f64 b) (floatOfInt .f64 b) = some .eq := Fl.order_self (Fl.ofInt_lim (by omega)) (by decide) (by decide)
  have o3 : FloatKind.f64.format.order sm 0 = some .eq := by rcases HZ.out with rfl | rfl <;> decide
  have o4 : FloatKind.f64.format.order 0 0 = some .eq := by decide
  have o5 : FloatKind.f64.format.order mid mid = some .eq := Fl.order_self HP.out.lmid (by decide) (by decide)
  obtain ⟨s1, e1, e2⟩ := HP.out.hmid
  obtain ⟨s2, e3, e4⟩ := HP.out.hhalf
  have f1 := fun t w => fadd (P := Ybad.prog) e1 t w
  have f2 := fun t w => fdiv (P := Ybad.prog) e2 t w
  have f3 := fun t w => fsub (P := Ybad.prog) e3 t w
  have f4 := fun t w => fdiv (P := Ybad.prog) e4 t w
  have cx0 := hs.cx 0 (by decide)
  rw [if_pos (by decide), HP.out.x0] at cx0
  have HS := hide hs
  clear hs e1 e2 e3 e4
  go_wp2_with fail
  clear f1 f2 f3 f4 o1 o2 o3 o4 o5 cx0 cn
  go_loop [13] (fun i => ∃ n : Nat, n ≤ 7 ∧ i = .int .i64 n) (fun i => 7 - (intOf i).toNat)
  case atStart => exact ⟨0, by decide, rfl⟩
  case round =>
    obtain ⟨n, hn, rfl⟩ := hrel
    have hbe := HS.out.be
    by_cases hlt : n < 7
    · obtain ⟨dx, q1, q2, q3, l1, l2⟩ := HP.out.round n hlt
      have f1 := fun t w => fmul (P := Ybad.prog) q1 t w
      have f2 := fun t w => fsub (P := Ybad.prog) q2 t w
      have f3 := fun t w => fadd (P := Ybad.prog) q3 t w
      have o1 : FloatKind.f64.format.order (X (2 * n + 1)) (X (2 * n + 1)) = some .eq := Fl.order_self l1 (by decide) (by decide)
      have o2 : FloatKind.f64.format.order (X (2 * n + 2)) (X (2 * n + 2)) = some .eq := Fl.order_self l2 (by decide) (by decide)
      have c0 : w1.cell? ⟨0, n, none⟩ = some (.float .f64 (nd n)) := (HT.out.below h3 hbe).c0 n (by omega)
      have c1 : w1.cell? ⟨w.heap.size, 1 + 2 * n, none⟩ = some (.float .f64 (X (2 * n + 1))) := by rw [HS.out.cx (1 + 2 * n) (by omega), if_pos (by omega), Nat.add_comm]
      have c2 : w1.cell? ⟨w.heap.size, 2 + 2 * n, none⟩ = some (.float .f64 (X (2 * n + 2))) := by rw [HS.out.cx (2 + 2 * n) (by omega), if_pos (by omega), Nat.add_comm]
      have z0 : 0 < w1.heap.size := by omega
      clear q1 q2 q3 l1 l2 hbe
      go_wp2_with fail
      go_round
      case rel => exact ⟨n + 1, by omega, by go_num⟩
      case measure => simp [intOf]; omega
    · have HB := hide hbe
      clear hbe
      go_wp2
      go_ret
      exact ⟨rfl, (HB.out.alloc (by omega) _)⟩

end Go.Proofs.YbulkcomeDoor
