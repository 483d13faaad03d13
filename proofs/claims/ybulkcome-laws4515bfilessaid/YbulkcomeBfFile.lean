import Derived.Test.YbulkcomeBfSift
namespace Go.Proofs.Ybulkcome
open Go.RowKit
attribute [local go_sem] bf_store_float

def ltB (x y : Nat) : Bool := FloatKind.f64.format.order x y == some .lt
def eqB (x y : Nat) : Bool := FloatKind.f64.format.order x y == some .eq
def gtB (x y : Nat) : Bool := FloatKind.f64.format.order x y == some .gt
def lessB (a b c d : Nat) : Bool := ltB a c || (eqB a c && ltB b d)

set_option maxHeartbeats 400000 in
theorem less_any (a b c d : Nat) (w : World) :
    Calls Yba.prog 27 #[.agg #[.float .f64 a, .float .f64 b], .agg #[.float .f64 c, .float .f64 d]] w fun e w' => e = .returned (.bool (lessB a b c d)) ∧ Below w.heap.size w w' := by
  have hB : ∀ x y, Below w.heap.size w ((w.alloc (.cells x 38)).alloc (.cells y 38)) := fun x y => ((Below.refl _ _).alloc (Nat.le_refl _) _).alloc (by simp) _
  have HB := hide hB
  clear hB
  cases h1 : ltB a c
  · cases h2 : eqB a c
    · have hv : lessB a b c d = false := by simp [lessB, h1, h2]
      rw [hv]
      unfold ltB at h1
      unfold eqB at h2
      clear hv
      go_enter Yba.func27, Yba.ntmps27
      go_wp2
      go_ret
      exact ⟨rfl, HB.out _ _⟩
    · cases h3 : ltB b d
      all_goals
        have hv : lessB a b c d = ltB b d := by simp [lessB, h1, h2]
        rw [hv, h3]
        unfold ltB at h1 h3
        unfold eqB at h2
        clear hv
        go_enter Yba.func27, Yba.ntmps27
        go_wp2
        go_ret
        exact ⟨rfl, HB.out _ _⟩
  · have hv : lessB a b c d = true := by simp [lessB, h1]
    rw [hv]
    unfold ltB at h1
    clear hv
    go_enter Yba.func27, Yba.ntmps27
    go_wp2
    go_ret
    exact ⟨rfl, HB.out _ _⟩

/-- the larger of two double-doubles, as ddMax picks it -/
def mx (a b c d : Nat) : Nat × Nat := if lessB a b c d then (c, d) else (a, b)

set_option maxHeartbeats 400000 in
theorem ddMax_any (a b c d : Nat) (w : World) :
    Calls Yba.prog 21 #[.agg #[.float .f64 a, .float .f64 b], .agg #[.float .f64 c, .float .f64 d]] w fun e w' => e = .returned (.agg #[.float .f64 (mx a b c d).1, .float .f64 (mx a b c d).2]) ∧ Below w.heap.size w w' := by
  have HB := hide ((((Below.refl w.heap.size w).alloc (Nat.le_refl _) (.cells #[.float .f64 a, .float .f64 b] 38)).alloc (by simp) (.cells #[.float .f64 c, .float .f64 d] 38)).alloc (by simp; omega) (.cells #[.float .f64 0, .float .f64 0] 38))
  cases hl : lessB a b c d
  · rw [show mx a b c d = (a, b) from by simp [mx, hl]]
    go_enter Yba.func21, Yba.ntmps21
    go_wp2_with fail
    refine (less_any a b c d _).mono ?_
    rw [hl]
    rintro e w1 ⟨rfl, hb1⟩
    have a0 : w1.cell? ⟨w.heap.size, 0, none⟩ = some (.float .f64 a) := bcellOf hb1 (by go_simp)
    have a1 : w1.cell? ⟨w.heap.size, 1, none⟩ = some (.float .f64 b) := bcellOf hb1 (by go_simp)
    have c0 : w1.cell? ⟨w.heap.size + 1 + 1, 0, none⟩ = some (.float .f64 0) := bcellOf hb1 (by go_simp)
    have c1 : w1.cell? ⟨w.heap.size + 1 + 1, 1, none⟩ = some (.float .f64 0) := bcellOf hb1 (by go_simp)
    have f0 : ∀ j, w1.frozen? ⟨w.heap.size + 1 + 1, j, none⟩ = false := fun j => by rw [hb1.frozen (by simp)]; go_simp
    have HB2 := hide (HB.out.trans (hb1.mono (by simp; omega)))
    clear hb1
    go_wp2
    exact bodyPost_ret (v := .agg #[.float .f64 a, .float .f64 b]) (by simp [results, Yba.results21, go_sem, c0, c1]) rfl ⟨rfl, (HB2.out.setCell (by simp; omega) _).setCell (by simp; omega) _⟩
  · rw [show mx a b c d = (c, d) from by simp [mx, hl]]
    go_enter Yba.func21, Yba.ntmps21
    go_wp2_with fail
    refine (less_any a b c d _).mono ?_
    rw [hl]
    rintro e w1 ⟨rfl, hb1⟩
    have b0 : w1.cell? ⟨w.heap.size + 1, 0, none⟩ = some (.float .f64 c) := bcellOf hb1 (by go_simp)
    have b1 : w1.cell? ⟨w.heap.size + 1, 1, none⟩ = some (.float .f64 d) := bcellOf hb1 (by go_simp)
    have c0 : w1.cell? ⟨w.heap.size + 1 + 1, 0, none⟩ = some (.float .f64 0) := bcellOf hb1 (by go_simp)
    have c1 : w1.cell? ⟨w.heap.size + 1 + 1, 1, none⟩ = some (.float .f64 0) := bcellOf hb1 (by go_simp)
    have f0 : ∀ j, w1.frozen? ⟨w.heap.size + 1 + 1, j, none⟩ = false := fun j => by rw [hb1.frozen (by simp)]; go_simp
    have HB2 := hide (HB.out.trans (hb1.mono (by simp; omega)))
    clear hb1
    go_wp2
    exact bodyPost_ret (v := .agg #[.float .f64 c, .float .f64 d]) (by simp [results, Yba.results21, go_sem, c0, c1]) rfl ⟨rfl, (HB2.out.setCell (by simp; omega) _).setCell (by simp; omega) _⟩

/-- the plain data of a job -/
structure Dat where
  mh : Nat
  ml : Nat
  sh : Nat
  sl : Nat
  at_ : Nat
  kh : Nat
  kl : Nat
  ks : Nat
  fol : Bool
  seq : Int

/-- block b is a job with the data d -/
structure JobD (w : World) (b : Nat) (d : Dat) : Prop where
  c14 : w.cell? ⟨b, 14, none⟩ = some (.int .i64 d.seq)
  c15 : w.cell? ⟨b, 15, none⟩ = some (.float .f64 d.mh)
  c16 : w.cell? ⟨b, 16, none⟩ = some (.float .f64 d.ml)
  c17 : w.cell? ⟨b, 17, none⟩ = some (.float .f64 d.sh)
  c18 : w.cell? ⟨b, 18, none⟩ = some (.float .f64 d.sl)
  c26 : w.cell? ⟨b, 26, none⟩ = some (.float .f64 d.at_)
  c27 : w.cell? ⟨b, 27, none⟩ = some (.bool d.fol)
  c47 : w.cell? ⟨b, 47, none⟩ = some (.float .f64 d.kh)
  c48 : w.cell? ⟨b, 48, none⟩ = some (.float .f64 d.kl)
  c49 : w.cell? ⟨b, 49, none⟩ = some (.float .f64 d.ks)
  f : ∀ j, w.frozen? ⟨b, j, none⟩ = false
  z : Zb w b

theorem JobD.but {q : Nat} {w w' : World} {b : Nat} {d : Dat} (h : JobD w b d) (hb : But q w w') (hq : b ≠ q) : JobD w' b d :=
  ⟨hb.cell h.c14 hq, hb.cell h.c15 hq, hb.cell h.c16 hq, hb.cell h.c17 hq, hb.cell h.c18 hq, hb.cell h.c26 hq, hb.cell h.c27 hq, hb.cell h.c47 hq, hb.cell h.c48 hq, hb.cell h.c49 hq,
    fun j => by rw [hb.frozen (a := ⟨b, j, none⟩) (show b < _ from World.block_lt_of_cell? w ⟨b, 14, none⟩ h.c14) hq]; exact h.f j, h.z.of_block (hb.block b h.z.lt hq)⟩
theorem JobD.below {w w' : World} {b : Nat} {d : Dat} (h : JobD w b d) (hb : Below w.heap.size w w') : JobD w' b d :=
  ⟨bcellOf hb h.c14, bcellOf hb h.c15, bcellOf hb h.c16, bcellOf hb h.c17, bcellOf hb h.c18, bcellOf hb h.c26, bcellOf hb h.c27, bcellOf hb h.c47, bcellOf hb h.c48, bcellOf hb h.c49,
    fun j => by rw [hb.frozen (p := ⟨b, j, none⟩) (show b < _ from World.block_lt_of_cell? w ⟨b, 14, none⟩ h.c14)]; exact h.f j, h.z.of_block (hb.block b h.z.lt)⟩
theorem JobD.isJob {w : World} {b : Nat} {d : Dat} (h : JobD w b d) : IsJob w b := ⟨⟨_, _, _, _, h.c47, h.c48, h.c49, h.c14⟩, h.z⟩
theorem JobD.lt {w : World} {b : Nat} {d : Dat} (h : JobD w b d) : b < w.heap.size := World.block_lt_of_cell? w _ h.c14

set_option maxHeartbeats 1000000 in
theorem slackOf_any (jb : Nat) (x y : Nat) (d : Dat) (w : World) (h : JobD w jb d) :
    Calls Yba.prog 22 #[.pointer (some ⟨jb, 0, none⟩), .agg #[.float .f64 x, .float .f64 y]] w fun e w' => ∃ r, e = .returned (.float .f64 r) ∧ Below w.heap.size w w' := by
  have p0 := h.c26
  have l0 := h.lt
  clear h
  go_enter Yba.func22, Yba.ntmps22
  go_wp2_with fail
  go_region_held (fun w' => w'.cell? ⟨jb, 26, none⟩ = some (.float .f64 d.at_) ∧ w'.cell? ⟨w.heap.size, 0, none⟩ = some (.float .f64 x))
    (first | (go_simp; done) | (refine ⟨?_, ?_⟩ <;> exact bcellOf (by assumption) (by go_simp)))
    (first | (go_at_call 28; refine (slack_any _ _ _ _).mono ?_; rintro e w2 ⟨r, rfl, hbe⟩))
  have hb2 : Below w.heap.size w w2 := ((Below.refl _ _).alloc (Nat.le_refl _) _).trans ((Below.drew (Below.refl _ _)).trans (hbe.mono (by simp)))
  go_wp2
  go_ret
  exact ⟨_, rfl, hb2⟩
end Go.Proofs.Ybulkcome
