import Derived.Test.YbulkcoscOld2
namespace Go.Proofs.Ybulkcosc
open Go.RowKit

/-- what is left of the old table and of the rows behind rebuild -/
structure OW (B sb db ob size : Nat) (E : Nat → Option Nat) (H : Nat → Nat) (vl vh vp vq : Value) (m : Nat) (Lv Hh : Nat → Nat) (W : World) : Prop where
  tab : Tab W sb size E H
  o0 : W.cell? ⟨ob, 0, none⟩ = some (.slice (some ⟨sb, 0, none⟩) size size)
  o1 : W.cell? ⟨ob, 1, none⟩ = some (pt db)
  ov : Vb W 40 2 ob
  dv : Vb W 38 1 db
  ol : W.ownsRow B 36 1 vl m (row m fun k => pv (some (Lv k)))
  oh : W.ownsRow B 41 1 vh m (row m fun k => .int .u64 (Hh k : Int))
  op : W.ownsRow B 36 1 vp size (row size fun j => pv (E j))
  oq : W.ownsRow B 41 1 vq size (row size fun j => .int .u64 (H j : Int))

variable {w w4 W W2 : World} {B sb db ob size xq m N : Nat} {xc : Array Value} {E F : Nat → Option Nat} {H G Lv Hh : Nat → Nat} {vl vh vp vq : Value} {lvl : Int}

theorem OW.below (h : OW B sb db ob size E H vl vh vp vq m Lv Hh W) (hb : Below W.heap.size W W2) : OW B sb db ob size E H vl vh vp vq m Lv Hh W2 :=
  ⟨h.tab.below hb, bcellOf hb h.o0, bcellOf hb h.o1, h.ov.below hb, h.dv.below hb, own_below h.ol hb, own_below h.oh hb, own_below h.op hb, own_below h.oq hb⟩

theorem own_oth {e n t : Nat} {v : Value} {xs : List Value} (h : w4.ownsRow B e 1 v n xs) (hx : w4.heap[xq]? = some (.cells xc t (0, 0))) (ht : t ≠ e) (ho : ∀ b, b < w4.heap.size → b ≠ xq → W.heap[b]? = w4.heap[b]?) : W.ownsRow B e 1 v n xs := own_keep h fun g cs _ hg => ho g (lt_of_block hg) (by
  intro e2
  subst e2
  rw [hx] at hg
  simp at hg
  exact ht hg.2)

theorem Fin.old (hF : Fin w4 xq N db size lvl E H W F G) (hS : S2 w sb db ob size xq xc E H vl vh vp vq m size Lv Hh w4) : OW w.heap.size sb db ob size E H vl vh vp vq m Lv Hh W := by
  have hx := hS.s.t.xv
  have blk : ∀ b t n, Vb w4 t n b → t ≠ 32 → W.heap[b]? = w4.heap[b]? := fun b t n hv ht => hF.oth b hv.lt (by
    intro e
    subst e
    obtain ⟨cs, h1, _⟩ := hv
    rw [hx] at h1
    simp at h1
    exact ht h1.2.symm)
  have hV : ∀ b, Vb w4 38 1 b → Vb W 38 1 b := fun b hv => hv.block (blk b 38 1 hv (by decide))
  have hob : Vb w4 40 2 ob := ⟨_, hS.s.t.ov, rfl⟩
  have hobk := blk ob 40 2 hob (by decide)
  have hsz : w4.heap.size ≤ W.heap.size := by have := hF.tab.lt; omega
  exact ⟨hS.s.t.tab.block (blk sb 51 _ hS.s.t.sv (by decide)) hV hsz, by rw [World.cell?_of_block (w := w4) hobk]; exact hS.s.t.o0, by rw [World.cell?_of_block (w := w4) hobk]; exact hS.s.t.o1, hob.block hobk, hV _ hS.s.t.dv, own_oth hS.s.ol hx (by decide) hF.oth, own_oth hS.s.oh hx (by decide) hF.oth, own_oth hS.op hx (by decide) hF.oth, own_oth hS.oq hx (by decide) hF.oth⟩

/-- a cell of an owned row -/
theorem own_cell {e n g c : Nat} {xs : Nat → Value} (h : W.ownsRow B e 1 (.slice (some ⟨g, 0, none⟩) n c) n (row n xs)) {j : Nat} (hj : j < n) : W.cell? ⟨g, j, none⟩ = some (xs j) := by
  rw [h.cellAt j (by omega)]; exact row_get n xs j hj
theorem own_ptr {e n : Nat} {v : Value} {p : Option Addr} {c : Nat} {xs : Nat → Value} (h : W.ownsRow B e 1 v n (row n xs)) (hv : v = .slice p n c) {j : Nat} (hj : j < n) : ∃ g, p = some ⟨g, 0, none⟩ ∧ W.cell? ⟨g, j, none⟩ = some (xs j) := by
  obtain ⟨p', c', h1, h2⟩ := own_form h
  rw [hv] at h1
  cases h1
  obtain ⟨g, h3, _⟩ := h2 j hj
  subst h3
  subst hv
  exact ⟨g, rfl, own_cell h hj⟩
end Go.Proofs.Ybulkcosc
