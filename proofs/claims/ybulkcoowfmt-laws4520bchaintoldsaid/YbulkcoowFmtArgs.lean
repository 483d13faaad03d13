import Derived.Test.YbulkcoowFmtVals
import Derived.ChangeMaps5
namespace Go.Proofs.YbulkcoowFmt
open Go.RowKit

/-- w' reads as w wherever w holds a cell outside block q -/
structure Kp (q : Nat) (w w' : World) : Prop where
  cell : ∀ a v, a.block ≠ q → w.cell? a = some v → w'.cell? a = some v
  zb : ∀ b, b ≠ q → Zb w b → Zb w' b

theorem Kp.below {q : Nat} {w w' : World} (h : Below w.heap.size w w') : Kp q w w' := ⟨fun _ _ _ hc => bcellOf h hc, fun _ _ hz => hz.below h⟩
theorem Kp.set (q i : Nat) (w : World) (v : Value) : Kp q w (w.setCell ⟨q, i, none⟩ v) :=
  ⟨fun a u ha hc => by rw [World.cell?_of_block (w := w) (Below.heap_setCell _ _ _ _ ha)]; exact hc, fun b hb hz => hz.of_block (Below.heap_setCell _ _ _ _ hb)⟩
theorem Kp.map {q mb clock clock' : Nat} {es es' : Array MapEntry} {w : World} (hm : w.heap[mb]? = some (.map es clock)) : Kp q w (ChangeMaps.setBlock w mb (.map es' clock')) := by
  have hne : ∀ (a : Addr) v, w.cell? a = some v → a.block ≠ mb := by
    intro a v hc e
    unfold World.cell? at hc
    rw [e, hm] at hc
    cases hc
  refine ⟨fun a v _ hc => ?_, fun b _ hz => ?_⟩
  · rw [World.cell?_of_block (w := w) (ChangeMaps.heap_setBlock_other hm _ (hne a v hc))]; exact hc
  · refine hz.of_block (ChangeMaps.heap_setBlock_other hm _ ?_)
    intro e
    obtain ⟨cs, t, h⟩ := hz
    rw [e, hm] at h
    cases h

/-- a term that compiles to z; none of its blocks is q -/
def TqI (q : Nat) (w : World) (t : Nat) (z : Int) : Prop := t ≠ q ∧ TmI w t z
def TqC (q : Nat) (w : World) (es : Array MapEntry) (t : Nat) (z : Int) : Prop := ∃ k y, t ≠ q ∧ k ≠ q ∧ w.cell? ⟨t, 0, none⟩ = some (.int .i64 3) ∧ w.cell? ⟨t, 4, none⟩ = some (.int .i64 y) ∧ w.cell? ⟨t, 7, none⟩ = some (kp k) ∧ Has w es k z
def TqN (q : Nat) (w : World) (t : Nat) (z : Int) : Prop := ∃ ab t2 y l m, t ≠ q ∧ ab ≠ q ∧ t2 ≠ q ∧ z = -y ∧ R y ∧ R (0 - y) ∧ w.cell? ⟨t, 0, none⟩ = some (.int .i64 6) ∧ w.cell? ⟨t, 2, none⟩ = some (.int .i64 l) ∧ w.cell? ⟨t, 3, none⟩ = some (.int .i64 m) ∧
  w.cell? ⟨t, 11, none⟩ = some (.slice (some ⟨ab, 0, none⟩) 1 1) ∧ w.cell? ⟨ab, 0, none⟩ = some (pt t2) ∧ TmI w t2 y
def Tq (q : Nat) (w : World) (es : Array MapEntry) (t : Nat) (z : Int) : Prop := TqI q w t z ∨ TqC q w es t z ∨ TqN q w t z

theorem Tq.tm {q : Nat} {w : World} {es : Array MapEntry} {t : Nat} {z : Int} (h : Tq q w es t z) : Tm w es t z := by
  rcases h with ⟨_, h⟩ | ⟨k, y, _, _, h⟩ | ⟨ab, t2, y, l, m, _, _, _, h⟩
  · exact Or.inl h
  · exact Or.inr (Or.inl ⟨k, y, h⟩)
  · exact Or.inr (Or.inr ⟨ab, t2, y, l, m, h⟩)

theorem Tq.keep {q : Nat} {w w' : World} {es es' : Array MapEntry} {t : Nat} {z : Int} (h : Tq q w es t z) (hk : Kp q w w') (he : ∀ k z, Has w es k z → (∀ e ∈ es'.toList, e.key = kp k → e.val = kv z) ∧ ∃ e ∈ es'.toList, e.key = kp k) : Tq q w' es' t z := by
  rcases h with ⟨h1, h0, h4⟩ | ⟨k, y, g1, g2, h0, h4, h7, hh⟩ | ⟨ab, t2, y, l, m, g1, g2, g3, e1, e2, e3, h0, h2, h3, h11, ha, k0, k4⟩
  · exact Or.inl ⟨h1, hk.cell _ _ h1 h0, hk.cell _ _ h1 h4⟩
  · exact Or.inr (Or.inl ⟨k, y, g1, g2, hk.cell _ _ g1 h0, hk.cell _ _ g1 h4, hk.cell _ _ g1 h7, ⟨hk.zb _ g2 hh.b, (he k z hh).1, (he k z hh).2⟩⟩)
  · exact Or.inr (Or.inr ⟨ab, t2, y, l, m, g1, g2, g3, e1, e2, e3, hk.cell _ _ g1 h0, hk.cell _ _ g1 h2, hk.cell _ _ g1 h3, hk.cell _ _ g1 h11, hk.cell _ _ g2 ha, hk.cell _ _ g3 k0, hk.cell _ _ g3 k4⟩)
theorem Tq.same {q : Nat} {w w' : World} {es : Array MapEntry} {t : Nat} {z : Int} (h : Tq q w es t z) (hk : Kp q w w') : Tq q w' es t z := h.keep hk fun _ _ hh => ⟨hh.v, hh.x⟩
end Go.Proofs.YbulkcoowFmt
