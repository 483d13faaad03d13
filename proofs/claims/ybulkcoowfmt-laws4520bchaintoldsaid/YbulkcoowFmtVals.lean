import Derived.Test.YbulkcoowFmtChain
namespace Go.Proofs.YbulkcoowFmt
open Go.RowKit

/-- the leaves handed in -/
def LeafAt (w : World) (b o n : Nat) (Kd V : Nat → Int) : Prop := ∀ i, i < n → w.cell? ⟨b, o + i * 2, none⟩ = some (.int .u8 (Kd i)) ∧ w.cell? ⟨b, o + i * 2 + 1, none⟩ = some (.int .i64 (V i)) ∧ 0 ≤ Kd i ∧ Kd i < 256 ∧ R (V i)
theorem LeafAt.below {w w' : World} {b o n : Nat} {Kd V : Nat → Int} (h : LeafAt w b o n Kd V) (hb : Below w.heap.size w w') : LeafAt w' b o n Kd V := fun i hi => by
  obtain ⟨h1, h2, h3⟩ := h i hi
  exact ⟨bcellOf hb h1, bcellOf hb h2, h3⟩
def Z (Kd V : Nat → Int) (i : Nat) : Int := if Kd i % 3 = 2 then -(V i) else V i
def SelAt (w : World) (b o n : Nat) (S : Nat → Int) : Prop := ∀ i, i < n → w.cell? ⟨b, o + i, none⟩ = some (.int .u8 (S i)) ∧ 0 ≤ S i ∧ S i < 256
def kOf (n2 : Nat) (S : Nat → Int) (i : Nat) : Nat := if n2 = 0 then 0 else (S (i % n2) % 4).toNat

/-- a row that is filled from the left -/
structure RowI (w : World) (q n s : Nat) (D : Nat → Value) (k : Nat) (wr : World) : Prop where
  bl : Below w.heap.size w wr
  q0 : w.heap.size ≤ q
  ql : q < wr.heap.size
  r : ∀ j, j < n * s → ∃ v, wr.cell? ⟨q, j, none⟩ = some v
  fr : ∀ j, wr.frozen? ⟨q, j, none⟩ = false
  d : ∀ j, j < k → wr.cell? ⟨q, j, none⟩ = some (D j)

theorem RowI.below {w wr w2 : World} {q n s k : Nat} {D : Nat → Value} (h : RowI w q n s D k wr) (hb : Below wr.heap.size wr w2) : RowI w q n s D k w2 :=
  ⟨h.bl.trans (hb.mono h.bl.size), h.q0, Nat.lt_of_lt_of_le h.ql hb.size, fun j hj => by obtain ⟨v, hv⟩ := h.r j hj; exact ⟨v, bcellOf hb hv⟩, fun j => by rw [hb.frozen (p := ⟨q, j, none⟩) h.ql]; exact h.fr j, fun j hj => bcellOf hb (h.d j hj)⟩

theorem RowI.next {w wr : World} {q n s k : Nat} {D : Nat → Value} (h : RowI w q n s D k wr) (hk : k < n * s) : RowI w q n s D (k + 1) (wr.setCell ⟨q, k, none⟩ (D k)) := by
  have hj : ∀ j, j ≠ k → (wr.setCell ⟨q, k, none⟩ (D k)).cell? ⟨q, j, none⟩ = wr.cell? ⟨q, j, none⟩ := fun j hj => World.cell?_setCell_other _ _ _ _ (by intro e; injection e with _ e; exact hj e.symm)
  obtain ⟨u, hu⟩ := h.r k hk
  have hsame : (wr.setCell ⟨q, k, none⟩ (D k)).cell? ⟨q, k, none⟩ = some (D k) := World.cell?_setCell_same _ _ _ hu
  refine ⟨h.bl.setCell h.q0 _, h.q0, by simpa using h.ql, fun j hjn => ?_, fun j => by rw [World.frozen?_setCell]; exact h.fr j, fun j hjk => ?_⟩
  · by_cases e : j = k
    · subst e; exact ⟨_, hsame⟩
    · obtain ⟨v, hv⟩ := h.r j hjn
      exact ⟨v, by rw [hj j e]; exact hv⟩
  · by_cases e : j = k
    · subst e; exact hsame
    · rw [hj j e]; exact h.d j (by omega)

theorem RowI.made {w wr : World} (hb : Below w.heap.size w wr) (n s : Nat) (z : Value) (t : TypeId) (D : Nat → Value) : RowI w wr.heap.size n s D 0 (wr.alloc (.cells (mcs z (n * s)) t)) :=
  ⟨hb.alloc hb.size _, hb.size, by simp, fun j hj => by obtain ⟨v, hv⟩ := mcs_get z (n * s) j hj; exact ⟨v, by rw [World.cell?_alloc_at _ _ _ _ rfl]; exact hv⟩, fun j => World.frozen?_alloc_at _ _ _ _ rfl, fun j hj => by omega⟩

theorem RowI.other {w wr : World} {q q' n s k i : Nat} {D : Nat → Value} {v : Value} (h : RowI w q n s D k wr) (hq : q ≠ q') (hq0 : w.heap.size ≤ q') : RowI w q n s D k (wr.setCell ⟨q', i, none⟩ v) := by
  have hb : ∀ j, (wr.setCell ⟨q', i, none⟩ v).cell? ⟨q, j, none⟩ = wr.cell? ⟨q, j, none⟩ := fun j => World.cell?_of_block (w := wr) (a := ⟨q, j, none⟩) (Below.heap_setCell _ _ _ _ hq)
  exact ⟨h.bl.setCell hq0 _, h.q0, by simpa using h.ql, fun j hj => by rw [hb]; exact h.r j hj, fun j => by rw [World.frozen?_setCell]; exact h.fr j, fun j hj => by rw [hb]; exact h.d j hj⟩

/-- the operators' cells -/
def D2 (K : Nat → Nat) (j : Nat) : Value := if j % 6 = 0 then .string (kindB (K (j / 6))) else if j % 6 = 1 then .string ByteArray.empty else if j % 6 = 2 then .int .i64 0 else if j % 6 = 3 then .float .f64 0 else if j % 6 = 4 then .int .i64 1 else .int .i64 ((j / 6 : Nat) + 1 : Int)
theorem RowI.six {w wr : World} {q n k : Nat} {K : Nat → Nat} (h : RowI w q n 6 (D2 K) (k * 6) wr) (hk : k < n) :
    RowI w q n 6 (D2 K) ((k + 1) * 6) ((((((wr.setCell ⟨q, k * 6, none⟩ (.string (kindB (K k)))).setCell ⟨q, k * 6 + 1, none⟩ (.string ByteArray.empty)).setCell ⟨q, k * 6 + 2, none⟩ (.int .i64 0)).setCell ⟨q, k * 6 + 3, none⟩ (.float .f64 0)).setCell ⟨q, k * 6 + 4, none⟩ (.int .i64 1)).setCell ⟨q, k * 6 + 5, none⟩ (.int .i64 ((k : Int) + 1))) := by
  have e0 : D2 K (k * 6) = .string (kindB (K k)) := by unfold D2; rw [if_pos (by omega), show k * 6 / 6 = k by omega]
  have e1 : D2 K (k * 6 + 1) = .string ByteArray.empty := by unfold D2; rw [if_neg (by omega), if_pos (by omega)]
  have e2 : D2 K (k * 6 + 2) = .int .i64 0 := by unfold D2; rw [if_neg (by omega), if_neg (by omega), if_pos (by omega)]
  have e3 : D2 K (k * 6 + 3) = .float .f64 0 := by unfold D2; rw [if_neg (by omega), if_neg (by omega), if_neg (by omega), if_pos (by omega)]
  have e4 : D2 K (k * 6 + 4) = .int .i64 1 := by unfold D2; rw [if_neg (by omega), if_neg (by omega), if_neg (by omega), if_neg (by omega), if_pos (by omega)]
  have e5 : D2 K (k * 6 + 5) = .int .i64 ((k : Int) + 1) := by unfold D2; rw [if_neg (by omega), if_neg (by omega), if_neg (by omega), if_neg (by omega), if_neg (by omega), show (k * 6 + 5) / 6 = k by omega]
  have h0 := h.next (by omega)
  have h1 := h0.next (by omega)
  have h2 := h1.next (by omega)
  have h3 := h2.next (by omega)
  have h4 := h3.next (by omega)
  have h5 := h4.next (by omega)
  rw [e0, e1, e2, e3, e4, e5] at h5
  rw [show (k + 1) * 6 = k * 6 + 1 + 1 + 1 + 1 + 1 + 1 by omega]
  exact h5

theorem RowI.ops {w wr : World} {q n : Nat} {K : Nat → Nat} (h : RowI w q n 6 (D2 K) (n * 6) wr) (hK : ∀ i, K i < 4) : OpsAt wr q n K := fun i hi => by
  refine ⟨hK i, 1, (i : Int) + 1, ?_, ?_, ?_, ?_, ?_, ?_⟩
  · rw [h.d (i * 6) (by omega)]; unfold D2; rw [if_pos (by omega), show i * 6 / 6 = i by omega]
  · rw [h.d (i * 6 + 1) (by omega)]; unfold D2; rw [if_neg (by omega), if_pos (by omega)]
  · rw [h.d (i * 6 + 2) (by omega)]; unfold D2; rw [if_neg (by omega), if_neg (by omega), if_pos (by omega)]
  · rw [h.d (i * 6 + 3) (by omega)]; unfold D2; rw [if_neg (by omega), if_neg (by omega), if_neg (by omega), if_pos (by omega)]
  · rw [h.d (i * 6 + 4) (by omega)]; unfold D2; rw [if_neg (by omega), if_neg (by omega), if_neg (by omega), if_neg (by omega), if_pos (by omega)]
  · rw [h.d (i * 6 + 5) (by omega)]; unfold D2; rw [if_neg (by omega), if_neg (by omega), if_neg (by omega), if_neg (by omega), if_neg (by omega), show (i * 6 + 5) / 6 = i by omega]

theorem info2 : (Ybaf.prog.info? 2).map (fun i => (i.zero, i.size, i.bytes)) = some (some (.int .i64 0), 1, 8) := by kernel_rfl
theorem make24 (n : Nat) (hn : n ≤ 1024) (w : World) : (Instr.makeSlice 24 (.int .i64 (n : Int)) (.int .i64 (n : Int))).run Ybaf.prog w = .ok (.slice (some ⟨w.heap.size, 0, none⟩) n n) (w.alloc (.cells (mcs (.int .i64 0) (n * 1)) 2)) := by
  obtain ⟨i2, hi, hz⟩ := Option.map_eq_some_iff.1 info2
  simp only [Prod.mk.injEq] at hz
  obtain ⟨h1, h2, h3⟩ := hz
  have := run_make (P := Ybaf.prog) w 24 2 i2 (.int .i64 0) Ybaf.underlying24 hi h1 .i64 .i64 n n (by omega) (Int.le_refl _) (by rw [h3]; omega) (by omega)
  rw [h2] at this
  unfold mcs
  simpa using this
theorem info43 : (Ybaf.prog.info? 43).map (fun i => (i.zero, i.size, i.bytes)) = some (some (.pointer none), 1, 8) := by kernel_rfl
theorem make42 (n : Nat) (hn : n ≤ 1024) (w : World) : (Instr.makeSlice 42 (.int .i64 (n : Int)) (.int .i64 (n : Int))).run Ybaf.prog w = .ok (.slice (some ⟨w.heap.size, 0, none⟩) n n) (w.alloc (.cells (mcs (.pointer none) (n * 1)) 43)) := by
  obtain ⟨i2, hi, hz⟩ := Option.map_eq_some_iff.1 info43
  simp only [Prod.mk.injEq] at hz
  obtain ⟨h1, h2, h3⟩ := hz
  have := run_make (P := Ybaf.prog) w 42 43 i2 (.pointer none) Ybaf.underlying42 hi h1 .i64 .i64 n n (by omega) (Int.le_refl _) (by rw [h3]; omega) (by omega)
  rw [h2] at this
  unfold mcs
  simpa using this
def tok0 : Value := .agg #[.string ByteArray.empty, .string ByteArray.empty, .int .i64 0, .float .f64 0, .int .i64 0, .int .i64 0]
theorem info36 : (Ybaf.prog.info? 36).map (fun i => (i.zero, i.size, i.bytes)) = some (some tok0, 6, 64) := by kernel_rfl
theorem make29 (n : Nat) (hn : n ≤ 1024) (w : World) : (Instr.makeSlice 29 (.int .i64 (n : Int)) (.int .i64 (n : Int))).run Ybaf.prog w = .ok (.slice (some ⟨w.heap.size, 0, none⟩) n n) (w.alloc (.cells (mcs tok0 (n * 6)) 36)) := by
  obtain ⟨i2, hi, hz⟩ := Option.map_eq_some_iff.1 info36
  simp only [Prod.mk.injEq] at hz
  obtain ⟨h1, h2, h3⟩ := hz
  have := run_make (P := Ybaf.prog) w 29 36 i2 tok0 Ybaf.underlying29 hi h1 .i64 .i64 n n (by omega) (Int.le_refl _) (by rw [h3]; omega) (by omega)
  rw [h2] at this
  unfold mcs
  simpa using this

set_option maxHeartbeats 1000000 in
theorem kind_any (x : Int) (h0 : 0 ≤ x) (h1 : x < 256) (w : World) : Calls Ybaf.prog 5 #[.int .u8 x] w fun e w' => e = .returned (.string (kindB (x % 4).toNat)) ∧ w' = w := by
  rcases (by omega : x % 4 = 0 ∨ x % 4 = 1 ∨ x % 4 = 2 ∨ x % 4 = 3) with h | h | h | h
  all_goals
    rw [h]
    go_enter Ybaf.func5, Ybaf.ntmps5
    go_wp2
    go_ret
    exact ⟨rfl, rfl⟩
end Go.Proofs.YbulkcoowFmt
