import Derived.Test.YbulkcomeDoorNodes
namespace Go.Proofs.YbulkcomeDoor
open Go.RowKit
attribute [local go_sem] run_store_float

structure WS (w : World) (k cf : Nat) (j : Nat) (w' : World) : Prop where
  be : Below w.heap.size w w'
  sz : w'.heap.size = w.heap.size + 4
  cn : w'.cell? ⟨w.heap.size + 2, 0, none⟩ = some (.int .i64 j)
  fn : w'.frozen? ⟨w.heap.size + 2, 0, none⟩ = false
  ck : w'.cell? ⟨w.heap.size, 0, none⟩ = some (.int .i64 k)
  cc : w'.cell? ⟨w.heap.size + 1, 0, none⟩ = some (.float .f64 cf)
  ow : Own (w.heap.size + 3) w'

theorem WS.step {w : World} {k cf j : Nat} {w' : World} (h : WS w k cf j w') :
    WS w k cf (j + 1) (w'.setCell ⟨w.heap.size + 2, 0, none⟩ (.int .i64 ((j : Int) + 1))) := by
  refine ⟨h.be.setCell (by simp) _, by simpa [World.setCell] using h.sz, ?_, ?_, ?_, ?_, ?_, ?_⟩
  · rw [World.cell?_setCell_same _ _ _ h.cn]; simp
  · simpa using h.fn
  · rw [cell_other _ (by omega)]; exact h.ck
  · rw [cell_other _ (by omega)]; exact h.cc
  · intro i hi
    rw [cell_other _ (by omega)]
    exact h.ow.c i hi
  · intro i hi
    simpa using h.ow.f i hi

theorem WS.drewN {w : World} {k cf j : Nat} {w' : World} (h : WS w k cf j w') (n : Nat) : WS w k cf j (w'.drewN n) :=
  ⟨⟨h.be.os, h.be.tape, h.be.output, h.be.size, h.be.block⟩, h.sz, h.cn, h.fn, h.ck, h.cc, ⟨h.ow.c, h.ow.f⟩⟩

theorem WS.start (w : World) (k cf : Nat) : WS w k cf 0 ((((w.alloc (.cells #[.int .i64 k] 3)).alloc (.cells #[.float .f64 cf] 22)).alloc (.cells #[.int .i64 0] 3)).alloc (.cells #[.float .f64 0, .float .f64 0, .float .f64 0, .float .f64 0] 26)) := by
  refine ⟨((((Below.refl _ _).alloc (Nat.le_refl _) _).alloc (by simp) _).alloc (by simp; omega) _).alloc (by simp; omega) _, by simp, ?_, ?_, ?_, ?_, ?_, ?_⟩
  · rw [World.cell?_alloc_past _ _ _ (by simp), World.cell?_alloc_at _ _ _ _ (by simp)]; rfl
  · rw [World.frozen?_alloc_past _ _ _ (by simp), World.frozen?_alloc_at _ _ _ _ (by simp)]
  · rw [World.cell?_alloc_past _ _ _ (by simp; omega), World.cell?_alloc_past _ _ _ (by simp; omega), World.cell?_alloc_past _ _ _ (by simp), World.cell?_alloc_at _ _ _ _ rfl]; rfl
  · rw [World.cell?_alloc_past _ _ _ (by simp <;> omega), World.cell?_alloc_past _ _ _ (by simp), World.cell?_alloc_at _ _ _ _ (by simp)]; rfl
  · intro i hi
    rw [World.cell?_alloc_at _ _ _ _ (by simp)]
    exact ⟨_, four_get i hi⟩
  · intro i hi
    rw [World.frozen?_alloc_at _ _ _ _ (by simp)]

theorem weight_call (a b mid half sm er k cf : Nat) (X K G : Nat → Nat) (w : World) (hT : Tabs nd wt gt w) (h3 : 3 ≤ w.heap.size)
    (hK : Kron nd wt gt a b mid half (fun j => if j = k then cf else 0) X K G sm er) :
    Calls Ybad.prog 6 #[.func (.func 7) #[] #[.pointer (some ⟨w.heap.size + 2, 0, none⟩), .pointer (some ⟨w.heap.size, 0, none⟩), .pointer (some ⟨w.heap.size + 1, 0, none⟩)], .float .f64 a, .float .f64 b]
      (((w.alloc (.cells #[.int .i64 k] 3)).alloc (.cells #[.float .f64 cf] 22)).alloc (.cells #[.int .i64 0] 3))
      fun e w' => e = .returned (.agg #[.float .f64 a, .float .f64 b, .float .f64 sm, .float .f64 er]) ∧ WS w k cf 15 w' := by
  have hsz : (((w.alloc (.cells #[.int .i64 k] 3)).alloc (.cells #[.float .f64 cf] 22)).alloc (.cells #[.int .i64 0] 3)).heap.size = w.heap.size + 3 := by simp
  have q := kronrod_any 7 #[.pointer (some ⟨w.heap.size + 2, 0, none⟩), .pointer (some ⟨w.heap.size, 0, none⟩), .pointer (some ⟨w.heap.size + 1, 0, none⟩)] (enters_of Ybad.func7 (by kernel_rfl) rfl) nd wt gt a b mid half (fun j => if j = k then cf else 0) X K G sm er hK
    (WS w k cf) (((w.alloc (.cells #[.int .i64 k] 3)).alloc (.cells #[.float .f64 cf] 22)).alloc (.cells #[.int .i64 0] 3)) (WS.start w k cf) (fun j w' h => ⟨hT.below h3 h.be, by rw [hsz]; exact h.ow⟩) (fun j w' n h => h.drewN n)
    (fun j w' hj h => (weight_f (X j) cf j k (w.heap.size + 2) w.heap.size (w.heap.size + 1) w' (by omega) h.cn h.fn h.ck h.cc).mono (fun e w'' ⟨he, hw⟩ => ⟨he, by rw [hw]; exact h.step⟩))
  rw [hsz] at q
  refine q.mono ?_
  rintro e w' ⟨he, w1, h1, rfl⟩
  refine ⟨he, ?_⟩
  have o0 : ∀ (w2 : World) (i : Nat) (v : Value), WS w k cf 15 w2 → i < 4 → WS w k cf 15 (w2.setCell ⟨w.heap.size + 3, i, none⟩ v) := by
    intro w2 i v h hi
    refine ⟨h.be.setCell (by simp) _, by simpa [World.setCell] using h.sz, ?_, ?_, ?_, ?_, ?_, ?_⟩
    · rw [cell_other _ (by omega)]; exact h.cn
    · simpa using h.fn
    · rw [cell_other _ (by omega)]; exact h.ck
    · rw [cell_other _ (by omega)]; exact h.cc
    · intro j hj
      by_cases e : i = j
      · subst e
        obtain ⟨u, hu⟩ := h.ow.c i hj
        exact ⟨_, World.cell?_setCell_same _ _ _ hu⟩
      · rw [cell_other _ (by omega)]; exact h.ow.c j hj
    · intro j hj; simpa using h.ow.f j hj
  exact o0 _ _ _ (o0 _ _ _ (o0 _ _ _ (o0 _ _ _ h1 (by decide)) (by decide)) (by decide)) (by decide)

/-- the law's own weights -/
def kwOf (k : Nat) : Nat := if k = 0 then wt 7 else wt ((k - 1) / 2)
def gwOf (k : Nat) : Nat := if k = 0 then gt 3 else if (k - 1) / 2 % 2 = 1 then gt ((k - 1) / 2 / 2) else 0

def Norm (x : Nat) : Prop := Fl.Lim 1023 x ∧ 1000 * 2 ^ 52 ≤ x % 2 ^ 63 ∧ Ieee.double.mul x 0 = some 0

theorem wt_norm : ∀ i, i < 8 → Norm (wt i) := by
  intro i hi
  unfold Norm Fl.Lim
  match i, hi with
  | 0, _ => decide
  | 1, _ => decide
  | 2, _ => decide
  | 3, _ => decide
  | 4, _ => decide
  | 5, _ => decide
  | 6, _ => decide
  | 7, _ => decide
  | n + 8, h => exact absurd h (by omega)

theorem gt_norm : ∀ i, i < 4 → Norm (gt i) := by
  intro i hi
  unfold Norm Fl.Lim
  match i, hi with
  | 0, _ => decide
  | 1, _ => decide
  | 2, _ => decide
  | 3, _ => decide
  | n + 4, h => exact absurd h (by omega)

/-- a weight times cf: finite, and no negative zero -/
theorem norm_mul {x : Nat} (hx : Norm x) {c : Int} (hc : c.natAbs < 2 ^ 32) : ∃ z, Ieee.double.mul x (floatOfInt .f64 c) = some z ∧ Fl.Lim 1057 z ∧ z ≠ 2 ^ 63 := by
  obtain ⟨z, e, l⟩ := Fl.mul_lim (R := 1057) hx.1 (Fl.ofInt_lim hc) (by decide) (by decide) (by decide) (by decide) (by decide) (by decide) (by decide)
  refine ⟨z, e, l, ?_⟩
  by_cases h0 : c = 0
  · subst h0
    have e2 : Ieee.double.mul x (floatOfInt .f64 0) = some 0 := by rw [show floatOfInt .f64 0 = 0 from Fl.ofInt_zero]; exact hx.2.2
    obtain rfl := Option.some.inj (e.symm.trans e2)
    decide
  · exact Fl.mul_ne hx.1 (Fl.ofInt_lim hc) (by decide) (by decide) (by decide) (by decide) hx.2.1 (Fl.ofInt_ge h0) e

theorem cf_ne (c : Int) : floatOfInt .f64 c ≠ 2 ^ 63 := by
  by_cases h0 : c = 0
  · subst h0; rw [show floatOfInt .f64 0 = 0 from Fl.ofInt_zero]; decide
  · intro e
    have := Fl.ofInt_ge h0
    rw [show FloatKind.f64.nearest c = floatOfInt .f64 c from rfl, e] at this
    exact absurd this (by decide)

theorem weight_kron {a b c : Int} {mid half k : Nat} {X : Nat → Nat} (h : Pts a b mid half X) (hc : c.natAbs < 2 ^ 32) (hk : k < 15) :
    ∃ K G sm er kz gL d e, Kron nd wt gt (floatOfInt .f64 a) (floatOfInt .f64 b) mid half (fun j => if j = k then floatOfInt .f64 c else 0) X K G sm er ∧
      Ieee.double.mul (kwOf k) (floatOfInt .f64 c) = some kz ∧ Ieee.double.mul (gwOf k) (floatOfInt .f64 c) = some gL ∧ Ieee.double.mul kz half = some sm ∧ Ieee.double.sub kz gL = some d ∧ Ieee.double.mul d half = some e ∧ er = e % 9223372036854775808 ∧
      FloatKind.f64.format.order sm sm = some .eq ∧ FloatKind.f64.format.order er er = some .eq := by
  have lc := Fl.ofInt_lim hc
  have nc := cf_ne c
  have nk : Norm (kwOf k) := by
    unfold kwOf
    split
    · exact wt_norm 7 (by decide)
    · exact wt_norm _ (by omega)
  obtain ⟨kz, hkz, lkz, nkz⟩ := norm_mul nk hc
  -- the Gauss part: what the law reckons, and what kronrod comes to
  obtain ⟨gL, gz, hgL, lgz, ngz, hgz, d, hd1, hd2, ld⟩ : ∃ gL gz, Ieee.double.mul (gwOf k) (floatOfInt .f64 c) = some gL ∧ Fl.Lim 1057 gz ∧ gz ≠ 2 ^ 63 ∧
      ((k = 0 ∨ (k - 1) / 2 % 2 = 1) ∧ gz = gL ∨ (k ≠ 0 ∧ (k - 1) / 2 % 2 = 0) ∧ gz = 0) ∧ ∃ d, Ieee.double.sub kz gL = some d ∧ Ieee.double.sub kz gz = some d ∧ Fl.Lim 1059 d := by
    by_cases hg : k = 0 ∨ (k - 1) / 2 % 2 = 1
    · have ng : Norm (gwOf k) := by
        unfold gwOf
        split
        · exact gt_norm 3 (by decide)
        · rw [if_pos (by omega)]
          exact gt_norm _ (by omega)
      obtain ⟨gL, hgL, lg, ng2⟩ := norm_mul ng hc
      obtain ⟨d, hd, ld⟩ := Fl.sub_lim lkz lg (by decide) (by decide)
      exact ⟨gL, gL, hgL, lg, ng2, Or.inl ⟨hg, rfl⟩, d, hd, hd, ld⟩
    · have e0 : gwOf k = 0 := by
        unfold gwOf
        rw [if_neg (by omega), if_neg (by omega)]
      obtain ⟨gL, hgL, zg⟩ := Fl.zero_mul lc (by decide) (by decide)
      refine ⟨gL, 0, by rw [e0]; exact hgL, ⟨by decide, by decide⟩, by decide, Or.inr ⟨by omega, rfl⟩, kz, ?_, ?_, lkz.mono (by decide)⟩
      · exact Fl.sub_zero lkz (by decide) (by decide) nkz zg
      · exact Fl.sub_zero lkz (by decide) (by decide) nkz (Or.inl rfl)
  obtain ⟨sm, hsm, lsm⟩ := Fl.mul_lim (R := 1093) lkz h.lhalf (by decide) (by decide) (by decide) (by decide) (by decide) (by decide) (by decide)
  obtain ⟨e, he, le⟩ := Fl.mul_lim (R := 1095) ld h.lhalf (by decide) (by decide) (by decide) (by decide) (by decide) (by decide) (by decide)
  refine ⟨fun i => if k ≤ 2 * i then kz else 0, fun i => if k ≤ 2 * i then gz else 0, sm, e % 9223372036854775808, kz, gL, d, e, ⟨h.hmid, h.hhalf, h.x0, ?_, ?_, fun i hi => ?_, ?_, ⟨d, e, ?_, he, rfl⟩⟩, hkz, hgL, hsm, hd1, he, rfl,
    Fl.order_self lsm (by decide) (by decide), Fl.order_self (Fl.abs_lim le) (by decide) (by decide)⟩
  · by_cases k0 : k = 0
    · subst k0; exact hkz
    · rw [if_neg (by omega), if_neg (by omega)]; decide
  · by_cases k0 : k = 0
    · subst k0
      rcases hgz with ⟨_, rfl⟩ | ⟨⟨q, _⟩, _⟩
      · exact hgL
      · exact absurd rfl q
    · rw [if_neg (by omega), if_neg (by omega)]; decide
  · obtain ⟨dx, q1, q2, q3, _⟩ := h.round i hi
    have lz : Fl.Lim 1057 0 := ⟨by decide, by decide⟩
    by_cases hin : k = 2 * i + 1 ∨ k = 2 * i + 2
    · have hpr : Ieee.double.add (if 2 * i + 1 = k then floatOfInt .f64 c else 0) (if 2 * i + 2 = k then floatOfInt .f64 c else 0) = some (floatOfInt .f64 c) := by
        rcases hin with hin | hin
        · rw [if_pos (by omega), if_neg (by omega)]; exact Fl.add_zero lc (by decide) (by decide) nc
        · rw [if_neg (by omega), if_pos (by omega)]; exact Fl.zero_add lc (by decide) (by decide) nc
      have ei : (k - 1) / 2 = i := by omega
      have ew : kwOf k = wt i := by unfold kwOf; rw [if_neg (by omega), ei]
      refine ⟨dx, _, kz, q1, q2, q3, hpr, by rw [← ew]; exact hkz, ?_, ?_, ?_⟩
      · rw [if_neg (by omega), if_pos (by omega)]
        exact Fl.zero_add lkz (by decide) (by decide) nkz
      · intro hp
        show (if k ≤ 2 * (i + 1) then gz else 0) = if k ≤ 2 * i then gz else 0
        rw [if_neg (show ¬ k ≤ 2 * i by omega), if_pos (by omega)]
        rcases hgz with ⟨q, _⟩ | ⟨_, q⟩
        · omega
        · exact q
      · intro hp
        rw [ei] at hgz
        rcases hgz with ⟨_, rfl⟩ | ⟨⟨_, q⟩, _⟩
        · have eg : gwOf k = gt (i / 2) := by unfold gwOf; rw [if_neg (by omega), ei, if_pos hp]
          refine ⟨gz, by rw [← eg]; exact hgL, ?_⟩
          show Ieee.double.add (if k ≤ 2 * i then gz else 0) gz = some (if k ≤ 2 * (i + 1) then gz else 0)
          rw [if_neg (by omega), if_pos (by omega)]
          exact Fl.zero_add lgz (by decide) (by decide) ngz
        · omega
    · have hpr : Ieee.double.add (if 2 * i + 1 = k then floatOfInt .f64 c else 0) (if 2 * i + 2 = k then floatOfInt .f64 c else 0) = some 0 := by
        rw [if_neg (by omega), if_neg (by omega)]; decide
      have ek : ∀ z : Nat, (if k ≤ 2 * (i + 1) then z else 0) = if k ≤ 2 * i then z else 0 := by
        intro z
        by_cases l : k ≤ 2 * i
        · rw [if_pos l, if_pos (by omega)]
        · rw [if_neg l, if_neg (by omega)]
      refine ⟨dx, 0, 0, q1, q2, q3, hpr, (wt_norm i (by omega)).2.2, ?_, fun _ => ek gz, fun _ => ⟨0, (gt_norm _ (by omega)).2.2, ?_⟩⟩
      · show Ieee.double.add (if k ≤ 2 * i then kz else 0) 0 = some (if k ≤ 2 * (i + 1) then kz else 0)
        rw [ek]
        split
        · exact Fl.add_zero lkz (by decide) (by decide) nkz
        · decide
      · show Ieee.double.add (if k ≤ 2 * i then gz else 0) 0 = some (if k ≤ 2 * (i + 1) then gz else 0)
        rw [ek]
        split
        · exact Fl.add_zero lgz (by decide) (by decide) ngz
        · decide
  · rw [if_pos (by omega)]; exact hsm
  · rw [if_pos (by omega), if_pos (by omega)]; exact hd2

end Go.Proofs.YbulkcomeDoor
