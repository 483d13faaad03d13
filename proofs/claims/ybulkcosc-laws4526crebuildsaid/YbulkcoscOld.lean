import Derived.Test.YbulkcoscLawNil
import Derived.Deep.AppendLies
namespace Go.Proofs.Ybulkcosc
open Go.RowKit

/-! ### plain -/
theorem cl_upd_same {db k : Nat} {E : Nat → Option Nat} (h0 : E k = none) : ∀ n, cl db (upd E k (some db)) n = cl db E n
  | 0 => rfl
  | n + 1 => by
    have h1 := cl_upd_same (db := db) h0 n
    show cl db (upd E k (some db)) n + _ = cl db E n + _
    rw [h1]
    by_cases e : n = k
    · subst e; rw [upd_same, h0]; simp [lv]
    · rw [upd_other _ _ e]
theorem cl_upd_new {db k b : Nat} {E : Nat → Option Nat} (h0 : E k = none) (hb : b ≠ db) : ∀ n, k < n → cl db (upd E k (some b)) n = cl db E n + 1
  | 0, h => by omega
  | n + 1, h => by
    show cl db (upd E k (some b)) n + _ = cl db E n + _ + 1
    by_cases e : n = k
    · subst e
      rw [cl_congr (F := E) (fun j hj => upd_other _ _ (by omega)), upd_same, h0]
      simp [lv, hb]
    · rw [cl_upd_new h0 hb n (by omega), upd_other _ _ e]
      omega

def Lives (db size : Nat) (E : Nat → Option Nat) (H Lv Hh : Nat → Nat) (m : Nat) : Prop := m = cl db E size ∧ ∀ k, k < m → ∃ j, j < size ∧ E j = some (Lv k) ∧ Lv k ≠ db ∧ H j = Hh k
theorem Lives.mark {db size k h m : Nat} {E : Nat → Option Nat} {H Lv Hh : Nat → Nat} (hl : Lives db size E H Lv Hh m) (h0 : E k = none) : Lives db size (upd E k (some db)) (upd H k h) Lv Hh m := by
  refine ⟨by rw [cl_upd_same h0]; exact hl.1, fun i hi => ?_⟩
  obtain ⟨j, h1, h2, h3, h4⟩ := hl.2 i hi
  have hne : j ≠ k := by intro e; subst e; rw [h0] at h2; cases h2
  exact ⟨j, h1, by rw [upd_other _ _ hne]; exact h2, h3, by rw [upd_other _ _ hne]; exact h4⟩
theorem Lives.add {db size k h m b : Nat} {E : Nat → Option Nat} {H Lv Hh : Nat → Nat} (hl : Lives db size E H Lv Hh m) (h0 : E k = none) (hk : k < size) (hb : b ≠ db) : Lives db size (upd E k (some b)) (upd H k h) (upd Lv m b) (upd Hh m h) (m + 1) := by
  refine ⟨by rw [cl_upd_new h0 hb _ hk, ← hl.1], fun i hi => ?_⟩
  by_cases e : i = m
  · subst e
    exact ⟨k, hk, by rw [upd_same, upd_same], by rw [upd_same]; exact hb, by rw [upd_same, upd_same]⟩
  · obtain ⟨j, h1, h2, h3, h4⟩ := hl.2 i (by omega)
    have hne : j ≠ k := by intro e; subst e; rw [h0] at h2; cases h2
    exact ⟨j, h1, by rw [upd_other _ _ hne, upd_other _ _ e]; exact h2, by rw [upd_other _ _ e]; exact h3, by rw [upd_other _ _ hne, upd_other _ _ e]; exact h4⟩
theorem Apart.mark {db size k : Nat} {E : Nat → Option Nat} (h : Apart db E size) : Apart db (upd E k (some db)) size := by
  intro i j b hi hj h1 h2 hb
  by_cases e1 : i = k
  · subst e1; rw [upd_same] at h1; cases h1; exact absurd rfl hb
  · by_cases e2 : j = k
    · subst e2; rw [upd_same] at h2; cases h2; exact absurd rfl hb
    · rw [upd_other _ _ e1] at h1
      rw [upd_other _ _ e2] at h2
      exact h i j b hi hj h1 h2 hb
theorem Apart.add {db size k c : Nat} {E : Nat → Option Nat} (h : Apart db E size) (hf : ∀ j, j < size → E j ≠ some c) : Apart db (upd E k (some c)) size := by
  intro i j b hi hj h1 h2 hb
  by_cases e1 : i = k
  · by_cases e2 : j = k
    · omega
    · subst e1
      rw [upd_same] at h1
      rw [upd_other _ _ e2] at h2
      cases h1
      exact absurd h2 (hf j hj)
  · by_cases e2 : j = k
    · subst e2
      rw [upd_same] at h2
      rw [upd_other _ _ e1] at h1
      cases h2
      exact absurd h1 (hf i hi)
    · rw [upd_other _ _ e1] at h1
      rw [upd_other _ _ e2] at h2
      exact h i j b hi hj h1 h2 hb

/-! ### the old table in the world -/
structure T1 (w : World) (sb db ob size xq : Nat) (xc : Array Value) (E : Nat → Option Nat) (H : Nat → Nat) (wr : World) : Prop where
  bl : Below w.heap.size w wr
  xv : wr.heap[xq]? = some (.cells xc 32 (0, 0))
  ov : wr.heap[ob]? = some (.cells #[.slice (some ⟨sb, 0, none⟩) size size, pt db] 40 (0, 0))
  dv : Vb wr 38 1 db
  sv : Vb wr 51 (size * 2) sb
  tab : Tab wr sb size E H
  ap : Apart db E size
  hH : ∀ j, j < size → H j < 2 ^ 64
  b0 : w.heap.size ≤ sb

variable {w wr w' : World} {sb db ob size xq : Nat} {xc : Array Value} {E : Nat → Option Nat} {H : Nat → Nat}

theorem T1.o0 (h : T1 w sb db ob size xq xc E H wr) : wr.cell? ⟨ob, 0, none⟩ = some (.slice (some ⟨sb, 0, none⟩) size size) := by rw [cell_of_row wr ob 0 _ _ _ h.ov]; rfl
theorem T1.o1 (h : T1 w sb db ob size xq xc E H wr) : wr.cell? ⟨ob, 1, none⟩ = some (pt db) := by rw [cell_of_row wr ob 1 _ _ _ h.ov]; rfl

/-- nothing but rows of pointers and of numbers changes -/
def Kt (wr w' : World) : Prop := ∀ (b : Nat) (cs : Array Value) (t : TypeId), t ≠ 36 → t ≠ 41 → wr.heap[b]? = some (.cells cs t (0, 0)) → w'.heap[b]? = wr.heap[b]?

theorem Vb.kt {w w' : World} {t n b : Nat} (h : Vb w t n b) (hk : Kt w w') (h1 : t ≠ 36) (h2 : t ≠ 41) : Vb w' t n b := by
  obtain ⟨cs, h, hs⟩ := h
  exact ⟨cs, by rw [hk b cs t h1 h2 h]; exact h, hs⟩

theorem T1.keep (h : T1 w sb db ob size xq xc E H wr) (hb : Below w.heap.size wr w') (hk : Kt wr w') : T1 w sb db ob size xq xc E H w' := by
  refine ⟨h.bl.trans hb, by rw [hk _ _ _ (by decide) (by decide) h.xv]; exact h.xv, by rw [hk _ _ _ (by decide) (by decide) h.ov]; exact h.ov, h.dv.kt hk (by decide) (by decide), h.sv.kt hk (by decide) (by decide), h.tab.block ?_ (fun b hv => hv.kt hk (by decide) (by decide)) hb.size, h.ap, h.hH, h.b0⟩
  obtain ⟨cs, h1, _⟩ := h.sv
  exact hk _ _ _ (by decide) (by decide) h1
theorem Kt.below (h : Below wr.heap.size wr w') : Kt wr w' := fun b _ _ _ _ hb => h.block b (lt_of_block hb)
theorem T1.below (h : T1 w sb db ob size xq xc E H wr) (hb : Below wr.heap.size wr w') : T1 w sb db ob size xq xc E H w' := h.keep (hb.mono h.bl.size) (Kt.below hb)
theorem Kt.grow {B e n : Nat} {v : Value} {xs : List Value} (ho : wr.ownsRow B e 1 v n xs) (he : e = 36 ∨ e = 41) (hg : wr.grownBy w' v.ownBlock) : Kt wr w' := fun b cs t h1 h2 hb => hg.block b (lt_of_block hb) (by
  intro e2
  rcases ho.2 with ⟨rfl, _⟩ | ⟨g, cap, cur, rfl, _, hg2, _⟩
  · cases e2
  · simp only [Value.ownBlock, Option.some.injEq] at e2
    subst e2
    rw [hb] at hg2
    simp at hg2
    rcases he with he | he
    · exact h1 (hg2.2.trans he)
    · exact h2 (hg2.2.trans he))
theorem grow_below {B e n : Nat} {v : Value} {xs : List Value} (ho : wr.ownsRow B e 1 v n xs) (hg : wr.grownBy w' v.ownBlock) (hB : B ≤ wr.heap.size) : Below B wr w' :=
  ⟨hg.os, hg.tape, hg.output, hg.size, fun k hk => hg.block k (by omega) (by
    intro e2
    have := ho.lt k e2.symm
    omega)⟩
theorem T1.grow {e n : Nat} {v : Value} {xs : List Value} (h : T1 w sb db ob size xq xc E H wr) (ho : wr.ownsRow w.heap.size e 1 v n xs) (he : e = 36 ∨ e = 41) (hg : wr.grownBy w' v.ownBlock) : T1 w sb db ob size xq xc E H w' :=
  h.keep (grow_below ho hg h.bl.size) (Kt.grow ho he hg)

theorem T1.ne {b t n : Nat} (h : T1 w sb db ob size xq xc E H wr) (hb : Vb wr t n b) (ht : t ≠ 51) : b ≠ sb := by
  intro e
  subst e
  obtain ⟨c1, h1, _⟩ := hb
  obtain ⟨c2, h2, _⟩ := h.sv
  rw [h1] at h2
  simp at h2
  exact ht h2.2
theorem T1.setS (h : T1 w sb db ob size xq xc E H wr) (i : Nat) (v : Value) (E' : Nat → Option Nat) (H' : Nat → Nat) (ht : Tab (wr.setCell ⟨sb, i, none⟩ v) sb size E' H') (ha : Apart db E' size) (hh : ∀ j, j < size → H' j < 2 ^ 64) : T1 w sb db ob size xq xc E' H' (wr.setCell ⟨sb, i, none⟩ v) := by
  have hx : xq ≠ sb := h.ne (t := 32) ⟨_, h.xv, rfl⟩ (by decide)
  have ho : ob ≠ sb := h.ne (t := 40) ⟨_, h.ov, rfl⟩ (by decide)
  exact ⟨h.bl.setCell h.b0 _, by rw [Below.heap_setCell _ _ _ _ hx]; exact h.xv, by rw [Below.heap_setCell _ _ _ _ ho]; exact h.ov, h.dv.set _ _, h.sv.set _ _, ht, ha, hh, h.b0⟩
theorem T1.putH {k hv : Nat} (h : T1 w sb db ob size xq xc E H wr) (hk : k < size) (hh : hv < 2 ^ 64) : T1 w sb db ob size xq xc E (upd H k hv) (wr.setCell ⟨sb, k * 2 + 1, none⟩ (.int .u64 (hv : Int))) :=
  h.setS _ _ _ _ (h.tab.putH hk) h.ap fun j hj => by
    by_cases e : j = k
    · subst e; rw [upd_same]; exact hh
    · rw [upd_other _ _ e]; exact h.hH j hj
theorem T1.putE {k b : Nat} (h : T1 w sb db ob size xq xc E H wr) (hk : k < size) (hb : Vb wr 38 1 b) (ha : Apart db (upd E k (some b)) size) : T1 w sb db ob size xq xc (upd E k (some b)) H (wr.setCell ⟨sb, k * 2, none⟩ (pv (some b))) :=
  h.setS _ _ _ _ (h.tab.putE hk (fun c hc => by cases hc; exact hb)) ha h.hH

/-! ### owned rows -/
def row (m : Nat) (f : Nat → Value) : List Value := (List.range m).map f
theorem row_length (m : Nat) (f : Nat → Value) : (row m f).length = m := by simp [row]
theorem row_get (m : Nat) (f : Nat → Value) (k : Nat) (h : k < m) : (row m f)[k]? = some (f k) := by simp [row, h]
theorem row_congr {m : Nat} {f g : Nat → Value} (h : ∀ k, k < m → f k = g k) : row m f = row m g := by
  unfold row
  apply List.map_congr_left
  intro k hk
  exact h k (by simpa using hk)
theorem row_snoc (m : Nat) (f : Nat → Value) : row m f ++ [f m] = row (m + 1) f := by unfold row; rw [List.range_succ, List.map_append]; rfl

theorem own_keep {w w' : World} {B e n : Nat} {v : Value} {xs : List Value} (h : w.ownsRow B e 1 v n xs) (hk : ∀ g cs, v.ownBlock = some g → w.heap[g]? = some (.cells cs e (0, 0)) → w'.heap[g]? = w.heap[g]?) : w'.ownsRow B e 1 v n xs := by
  rcases h with ⟨h1, h2 | ⟨g, cap, cur, hv, hb, hg, h3⟩⟩
  · exact ⟨h1, Or.inl h2⟩
  · exact ⟨h1, Or.inr ⟨g, cap, cur, hv, hb, by rw [hk g cur (by rw [hv]; rfl) hg]; exact hg, h3⟩⟩
theorem own_below {w w' : World} {B e n : Nat} {v : Value} {xs : List Value} (h : w.ownsRow B e 1 v n xs) (hb : Below w.heap.size w w') : w'.ownsRow B e 1 v n xs := own_keep h fun g _ _ hg => hb.block g (lt_of_block hg)
theorem own_set {w : World} {B e n t c sb i : Nat} {v u : Value} {xs : List Value} (h : w.ownsRow B e 1 v n xs) (hs : Vb w t c sb) (ht : t ≠ e) : (w.setCell ⟨sb, i, none⟩ u).ownsRow B e 1 v n xs := own_keep h fun g cs _ hg => Below.heap_setCell _ _ _ _ (by
  intro e2
  simp only at e2
  subst e2
  obtain ⟨c1, h1, _⟩ := hs
  rw [hg] at h1
  simp at h1
  exact ht h1.2.symm)
/-- a row of another kind stays -/
theorem own_grow {w w' : World} {B B2 e e2 n n2 : Nat} {v v2 : Value} {xs xs2 : List Value} (h : w.ownsRow B e 1 v n xs) (ho : w.ownsRow B2 e2 1 v2 n2 xs2) (hg : w.grownBy w' v2.ownBlock) (hne : e ≠ e2 ∨ (∀ g, v.ownBlock = some g → v2.ownBlock ≠ some g)) : w'.ownsRow B e 1 v n xs := own_keep h fun g cs hv hgc => hg.block g (lt_of_block hgc) (by
  intro e3
  rcases hne with hne | hne
  · rcases ho.2 with ⟨rfl, _⟩ | ⟨g2, cap, cur, rfl, _, hg2, _⟩
    · cases e3
    · simp only [Value.ownBlock, Option.some.injEq] at e3
      subst e3
      rw [hgc] at hg2
      simp at hg2
      exact hne hg2.2
  · exact hne g hv e3.symm)
end Go.Proofs.Ybulkcosc
