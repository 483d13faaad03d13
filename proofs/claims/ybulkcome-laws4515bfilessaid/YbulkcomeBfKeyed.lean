import Derived.Test.YbulkcomeBfFile
namespace Go.Proofs.Ybulkcome
open Go.RowKit
attribute [local go_sem] bf_store_float

def keyOf (sel : Nat) (d : Dat) : Nat × Nat := if sel = 0 then mx d.mh d.ml d.sh d.sl else if sel = 2 then (d.sh, d.sl) else (d.mh, d.ml)
def rekey (sel : Nat) (d : Dat) (r : Nat) : Dat := if sel = 3 then d else { d with kh := (keyOf sel d).1, kl := (keyOf sel d).2, ks := r }

theorem JobD.rekeyed {w : World} {b : Nat} {d : Dat} (h : JobD w b d) (x y r : Nat) :
    JobD (((w.setCell ⟨b, 47, none⟩ (.float .f64 x)).setCell ⟨b, 48, none⟩ (.float .f64 y)).setCell ⟨b, 49, none⟩ (.float .f64 r)) b { d with kh := x, kl := y, ks := r } := by
  have o : ∀ j v, j ≠ 47 → j ≠ 48 → j ≠ 49 → w.cell? ⟨b, j, none⟩ = some v → (((w.setCell ⟨b, 47, none⟩ (.float .f64 x)).setCell ⟨b, 48, none⟩ (.float .f64 y)).setCell ⟨b, 49, none⟩ (.float .f64 r)).cell? ⟨b, j, none⟩ = some v := by
    intro j v h1 h2 h3 hc
    rw [cell_other _ (by omega), cell_other _ (by omega), cell_other _ (by omega)]
    exact hc
  refine ⟨o _ _ (by decide) (by decide) (by decide) h.c14, o _ _ (by decide) (by decide) (by decide) h.c15, o _ _ (by decide) (by decide) (by decide) h.c16, o _ _ (by decide) (by decide) (by decide) h.c17, o _ _ (by decide) (by decide) (by decide) h.c18,
    o _ _ (by decide) (by decide) (by decide) h.c26, o _ _ (by decide) (by decide) (by decide) h.c27, ?_, ?_, ?_, fun j => by simpa using h.f j, ?_⟩
  · rw [cell_other _ (by omega), cell_other _ (by omega), World.cell?_setCell_same _ _ _ h.c47]
  · rw [cell_other _ (by omega), World.cell?_setCell_same (u := .float .f64 d.kl) _ _ _ (by rw [cell_other _ (by omega)]; exact h.c48)]
  · rw [World.cell?_setCell_same (u := .float .f64 d.ks) _ _ _ (by rw [cell_other _ (by omega), cell_other _ (by omega)]; exact h.c49)]
  · obtain ⟨cs, t, hz⟩ := h.z
    exact ⟨_, t, heap_setCell 49 _ (heap_setCell 48 _ (heap_setCell 47 _ hz))⟩

theorem but_three (b : Nat) (w : World) (v0 v1 v2 : Value) : But b w (((w.setCell ⟨b, 47, none⟩ v0).setCell ⟨b, 48, none⟩ v1).setCell ⟨b, 49, none⟩ v2) :=
  ((But.setCell b 47 w v0).trans (But.setCell b 48 _ v1)).trans (But.setCell b 49 _ v2)

set_option maxHeartbeats 1000000 in
theorem keyed_place (ob jb : Nat) (d : Dat) (w : World) (h : JobD w jb d) (ho : w.cell? ⟨ob, 0, none⟩ = some (.int .i64 3)) :
    Calls Yba.prog 18 #[.pointer (some ⟨ob, 0, none⟩), .pointer (some ⟨jb, 0, none⟩)] w fun e w' => e = .returned (.tuple #[]) ∧ Below w.heap.size w w' := by
  have p0 := h.c15
  have p1 := h.c16
  have lo : ob < w.heap.size := World.block_lt_of_cell? w _ ho
  have lj := h.lt
  clear h
  go_enter Yba.func18, Yba.ntmps18
  go_wp2
  refine bodyPost_ret (results_none rfl _ _ _) rfl ?_
  exact ⟨rfl, (Below.refl _ _).alloc (Nat.le_refl _) _⟩

set_option maxHeartbeats 1000000 in
theorem keyed_map (ob jb : Nat) (d : Dat) (w : World) (h : JobD w jb d) (ho : w.cell? ⟨ob, 0, none⟩ = some (.int .i64 1)) :
    Calls Yba.prog 18 #[.pointer (some ⟨ob, 0, none⟩), .pointer (some ⟨jb, 0, none⟩)] w fun e w' => e = .returned (.tuple #[]) ∧ But jb w w' ∧ ∃ r, JobD w' jb { d with kh := d.mh, kl := d.ml, ks := r } := by
  have p0 := h.c15
  have p1 := h.c16
  have p2 := h.c47
  have p3 := h.c48
  have p4 := h.c49
  have p5 := h.f 47
  have p6 := h.f 48
  have p7 := h.f 49
  have lo : ob < w.heap.size := World.block_lt_of_cell? w _ ho
  have lj := h.lt
  have HJ := hide h
  clear h
  go_enter Yba.func18, Yba.ntmps18
  go_wp2_with fail
  have lne : ¬ (jb = w.heap.size) := by omega
  have lne2 : ¬ (w.heap.size = jb) := by omega
  go_region_held (fun w' => w'.cell? ⟨w.heap.size, 0, none⟩ = some (.float .f64 d.mh) ∧ w'.cell? ⟨w.heap.size, 1, none⟩ = some (.float .f64 d.ml))
    (first | (go_simp; done) | (exact ⟨by assumption, by assumption⟩))
    (first | (go_at_call 22; refine (slackOf_any jb _ _ d _ (HJ.out.below (((Below.refl _ _).alloc (Nat.le_refl _) _).drew))).mono ?_; rintro e w2 ⟨r, rfl, hbe⟩
              have hb2 : Below w.heap.size w w2 := ((Below.refl _ _).alloc (Nat.le_refl _) _).drew.trans (hbe.mono (by simp))
              have hj2 := HJ.out.below hb2
              have g2 := hj2.c47
              have g3 := hj2.c48
              have g4 := hj2.c49
              have g5 := hj2.f 47
              have g6 := hj2.f 48
              have g7 := hj2.f 49
              have k0 : w2.cell? ⟨w.heap.size, 0, none⟩ = some (.float .f64 d.mh) := by rw [hbe.cell (by simp)]; go_simp
              have k1 : w2.cell? ⟨w.heap.size, 1, none⟩ = some (.float .f64 d.ml) := by rw [hbe.cell (by simp)]; go_simp
              have HB2 := hide hb2
              have HJ2 := hide hj2
              clear hb2 hj2))
  go_end0
  exact ⟨rfl, (But.of_below HB2.out).trans (but_three jb w2 _ _ _), r, HJ2.out.rekeyed _ _ _⟩
set_option maxHeartbeats 1000000 in
theorem keyed_ship (ob jb : Nat) (d : Dat) (w : World) (h : JobD w jb d) (ho : w.cell? ⟨ob, 0, none⟩ = some (.int .i64 2)) :
    Calls Yba.prog 18 #[.pointer (some ⟨ob, 0, none⟩), .pointer (some ⟨jb, 0, none⟩)] w fun e w' => e = .returned (.tuple #[]) ∧ But jb w w' ∧ ∃ r, JobD w' jb { d with kh := d.sh, kl := d.sl, ks := r } := by
  have p0 := h.c15
  have p1 := h.c16
  have p8 := h.c17
  have p9 := h.c18
  have p2 := h.c47
  have p3 := h.c48
  have p4 := h.c49
  have p5 := h.f 47
  have p6 := h.f 48
  have p7 := h.f 49
  have lo : ob < w.heap.size := World.block_lt_of_cell? w _ ho
  have lj := h.lt
  have HJ := hide h
  clear h
  go_enter Yba.func18, Yba.ntmps18
  go_wp2_with fail
  have lne : ¬ (jb = w.heap.size) := by omega
  have lne2 : ¬ (w.heap.size = jb) := by omega
  go_region_held (fun w' => w'.cell? ⟨w.heap.size, 0, none⟩ = some (.float .f64 d.sh) ∧ w'.cell? ⟨w.heap.size, 1, none⟩ = some (.float .f64 d.sl))
    (first | (go_simp; done) | (exact ⟨by assumption, by assumption⟩))
    (first | (go_at_call 22; refine (slackOf_any jb _ _ d _ (HJ.out.below (((Below.refl _ _).alloc (Nat.le_refl _) _).drew))).mono ?_; rintro e w2 ⟨r, rfl, hbe⟩
              have hb2 : Below w.heap.size w w2 := ((Below.refl _ _).alloc (Nat.le_refl _) _).drew.trans (hbe.mono (by simp))
              have hj2 := HJ.out.below hb2
              have g2 := hj2.c47
              have g3 := hj2.c48
              have g4 := hj2.c49
              have g5 := hj2.f 47
              have g6 := hj2.f 48
              have g7 := hj2.f 49
              have k0 : w2.cell? ⟨w.heap.size, 0, none⟩ = some (.float .f64 d.sh) := by rw [hbe.cell (by simp)]; go_simp
              have k1 : w2.cell? ⟨w.heap.size, 1, none⟩ = some (.float .f64 d.sl) := by rw [hbe.cell (by simp)]; go_simp
              have HB2 := hide hb2
              have HJ2 := hide hj2
              clear hb2 hj2))
  go_end0
  exact ⟨rfl, (But.of_below HB2.out).trans (but_three jb w2 _ _ _), r, HJ2.out.rekeyed _ _ _⟩
set_option maxHeartbeats 1000000 in
theorem keyed_size (ob jb : Nat) (d : Dat) (w : World) (h : JobD w jb d) (ho : w.cell? ⟨ob, 0, none⟩ = some (.int .i64 0)) :
    Calls Yba.prog 18 #[.pointer (some ⟨ob, 0, none⟩), .pointer (some ⟨jb, 0, none⟩)] w fun e w' => e = .returned (.tuple #[]) ∧ But jb w w' ∧ ∃ r, JobD w' jb { d with kh := (mx d.mh d.ml d.sh d.sl).1, kl := (mx d.mh d.ml d.sh d.sl).2, ks := r } := by
  have p0 := h.c15
  have p1 := h.c16
  have p8 := h.c17
  have p9 := h.c18
  have p2 := h.c47
  have p3 := h.c48
  have p4 := h.c49
  have p5 := h.f 47
  have p6 := h.f 48
  have p7 := h.f 49
  have lo : ob < w.heap.size := World.block_lt_of_cell? w _ ho
  have lj := h.lt
  have HJ := hide h
  clear h
  go_enter Yba.func18, Yba.ntmps18
  go_wp2_with fail
  go_region_with (go_at_call 21; refine (ddMax_any _ _ _ _ _).mono ?_; rintro e w1 ⟨rfl, hb1⟩
                  have hb0 : Below w.heap.size w w1 := ((Below.refl _ _).alloc (Nat.le_refl _) _).drew.trans (hb1.mono (by simp))
                  have u0 : w1.cell? ⟨w.heap.size, 0, none⟩ = some (.float .f64 d.mh) := by rw [hb1.cell (by simp)]; go_simp
                  have u1 : w1.cell? ⟨w.heap.size, 1, none⟩ = some (.float .f64 d.ml) := by rw [hb1.cell (by simp)]; go_simp
                  have u2 : w1.frozen? ⟨w.heap.size, 0, none⟩ = false := by rw [hb1.frozen (by simp)]; go_simp
                  have u3 : w1.frozen? ⟨w.heap.size, 1, none⟩ = false := by rw [hb1.frozen (by simp)]; go_simp
                  have u4 : w.heap.size < w1.heap.size := by have := hb1.size; simp at this; omega
                  have HB0 := hide hb0
                  clear hb0 hb1)
  all_goals
    obtain ⟨x, hx⟩ : ∃ x, (mx d.mh d.ml d.sh d.sl).1 = x := ⟨_, rfl⟩
    obtain ⟨y, hy⟩ : ∃ y, (mx d.mh d.ml d.sh d.sl).2 = y := ⟨_, rfl⟩
    rw [hx, hy]
    have HX := hide hx
    have HY := hide hy
    clear hx hy
    go_wp2_with fail
    have hbx : Below w.heap.size w ((w1.setCell ⟨w.heap.size, 0, none⟩ (.float .f64 x)).setCell ⟨w.heap.size, 1, none⟩ (.float .f64 y)) := (HB0.out.setCell (Nat.le_refl _) _).setCell (Nat.le_refl _) _
    have k0x : ((w1.setCell ⟨w.heap.size, 0, none⟩ (.float .f64 x)).setCell ⟨w.heap.size, 1, none⟩ (.float .f64 y)).cell? ⟨w.heap.size, 0, none⟩ = some (.float .f64 x) := by go_simp
    have k1x : ((w1.setCell ⟨w.heap.size, 0, none⟩ (.float .f64 x)).setCell ⟨w.heap.size, 1, none⟩ (.float .f64 y)).cell? ⟨w.heap.size, 1, none⟩ = some (.float .f64 y) := by go_simp
    have szx : w.heap.size < ((w1.setCell ⟨w.heap.size, 0, none⟩ (.float .f64 x)).setCell ⟨w.heap.size, 1, none⟩ (.float .f64 y)).heap.size := by simpa [World.setCell] using u4
    generalize (w1.setCell ⟨w.heap.size, 0, none⟩ (.float .f64 x)).setCell ⟨w.heap.size, 1, none⟩ (.float .f64 y) = W at hbx k0x k1x szx ⊢
    have HBX := hide hbx
    clear hbx u0 u1 u2 u3 u4 HB0
    have lne : ¬ (jb = w.heap.size) := by omega
    have lne2 : ¬ (w.heap.size = jb) := by omega
    go_region_held (fun w' => w'.cell? ⟨w.heap.size, 0, none⟩ = some (.float .f64 x) ∧ w'.cell? ⟨w.heap.size, 1, none⟩ = some (.float .f64 y))
      (first | (go_simp; done) | (exact ⟨by assumption, by assumption⟩))
      (first | (go_at_call 22; refine (slackOf_any jb _ _ d _ (HJ.out.below (HBX.out.drew))).mono ?_; rintro e w2 ⟨r, rfl, hbe⟩
                have hb2 : Below w.heap.size w w2 := HBX.out.drew.trans (hbe.mono (Nat.le_of_lt szx))
                have hj2 := HJ.out.below hb2
                have g2 := hj2.c47
                have g3 := hj2.c48
                have g4 := hj2.c49
                have g5 := hj2.f 47
                have g6 := hj2.f 48
                have g7 := hj2.f 49
                have k0 : w2.cell? ⟨w.heap.size, 0, none⟩ = some (.float .f64 x) := by rw [hbe.cell (by exact szx)]; exact k0x
                have k1 : w2.cell? ⟨w.heap.size, 1, none⟩ = some (.float .f64 y) := by rw [hbe.cell (by exact szx)]; exact k1x
                have HB2 := hide hb2
                have HJ2 := hide hj2
                clear hb2 hj2))
    go_end0
    rw [HX.out, HY.out]
    exact ⟨rfl, (But.of_below HB2.out).trans (but_three jb w2 _ _ _), r, HJ2.out.rekeyed _ _ _⟩

/-- keyed, of whatever order -/
theorem keyed_any (ob jb sel : Nat) (hs : sel < 4) (d : Dat) (w : World) (h : JobD w jb d) (ho : w.cell? ⟨ob, 0, none⟩ = some (.int .i64 sel)) :
    Calls Yba.prog 18 #[.pointer (some ⟨ob, 0, none⟩), .pointer (some ⟨jb, 0, none⟩)] w fun e w' => e = .returned (.tuple #[]) ∧ But jb w w' ∧ ∃ r, JobD w' jb (rekey sel d r) := by
  match sel, hs with
  | 0, _ => exact (keyed_size ob jb d w h ho).mono fun e w' ⟨h1, h2, r, h3⟩ => ⟨h1, h2, r, h3⟩
  | 1, _ => exact (keyed_map ob jb d w h ho).mono fun e w' ⟨h1, h2, r, h3⟩ => ⟨h1, h2, r, h3⟩
  | 2, _ => exact (keyed_ship ob jb d w h ho).mono fun e w' ⟨h1, h2, r, h3⟩ => ⟨h1, h2, r, h3⟩
  | 3, _ => exact (keyed_place ob jb d w h ho).mono fun e w' ⟨h1, h2⟩ => ⟨h1, But.of_below h2, 0, h.below h2⟩
  | n + 4, h => exact absurd h (by omega)
end Go.Proofs.Ybulkcome
