import Derived.Test.YbulkcoscOld
namespace Go.Proofs.Ybulkcosc
open Go.RowKit

def SpecAt (w : World) (b o n : Nat) (Kd : Nat → Int) (Hs : Nat → Nat) (St : Nat → ByteArray) : Prop := ∀ i, i < n → w.cell? ⟨b, o + i * 3, none⟩ = some (.int .u8 (Kd i)) ∧ w.cell? ⟨b, o + i * 3 + 1, none⟩ = some (.int .u64 (Hs i : Int)) ∧ w.cell? ⟨b, o + i * 3 + 2, none⟩ = some (.string (St i)) ∧ 0 ≤ Kd i ∧ Kd i < 256 ∧ Hs i < 2 ^ 64
theorem SpecAt.below {w w' : World} {b o n : Nat} {Kd : Nat → Int} {Hs : Nat → Nat} {St : Nat → ByteArray} (h : SpecAt w b o n Kd Hs St) (hb : Below w.heap.size w w') : SpecAt w' b o n Kd Hs St := fun i hi => by
  obtain ⟨h1, h2, h3, h4⟩ := h i hi
  exact ⟨bcellOf hb h1, bcellOf hb h2, bcellOf hb h3, h4⟩

structure S1 (w : World) (sb db ob size xq : Nat) (xc : Array Value) (E : Nat → Option Nat) (H : Nat → Nat) (vl vh : Value) (m : Nat) (Lv Hh : Nat → Nat) (wr : World) : Prop where
  t : T1 w sb db ob size xq xc E H wr
  ol : wr.ownsRow w.heap.size 36 1 vl m (row m fun k => pv (some (Lv k)))
  oh : wr.ownsRow w.heap.size 41 1 vh m (row m fun k => .int .u64 (Hh k : Int))

variable {w wr w' : World} {sb db ob size xq m : Nat} {xc : Array Value} {E : Nat → Option Nat} {H Lv Hh : Nat → Nat} {vl vh : Value}
theorem S1.below (h : S1 w sb db ob size xq xc E H vl vh m Lv Hh wr) (hb : Below wr.heap.size wr w') : S1 w sb db ob size xq xc E H vl vh m Lv Hh w' := ⟨h.t.below hb, own_below h.ol hb, own_below h.oh hb⟩
theorem S1.putH {k hv : Nat} (h : S1 w sb db ob size xq xc E H vl vh m Lv Hh wr) (hk : k < size) (hh : hv < 2 ^ 64) : S1 w sb db ob size xq xc E (upd H k hv) vl vh m Lv Hh (wr.setCell ⟨sb, k * 2 + 1, none⟩ (.int .u64 (hv : Int))) :=
  ⟨h.t.putH hk hh, own_set h.ol h.t.sv (by decide), own_set h.oh h.t.sv (by decide)⟩
theorem S1.putE {k b : Nat} (h : S1 w sb db ob size xq xc E H vl vh m Lv Hh wr) (hk : k < size) (hb : Vb wr 38 1 b) (ha : Apart db (upd E k (some b)) size) : S1 w sb db ob size xq xc (upd E k (some b)) H vl vh m Lv Hh (wr.setCell ⟨sb, k * 2, none⟩ (pv (some b))) :=
  ⟨h.t.putE hk hb ha, own_set h.ol h.t.sv (by decide), own_set h.oh h.t.sv (by decide)⟩

theorem S1.c4 {k hv : Nat} (h : S1 w sb db ob size xq xc E H vl vh m Lv Hh wr) (hk : k < size) (hh : hv < 2 ^ 64) :
    Calls Yba.prog 4 #[.pointer (some ⟨sb, k * 2 + 1, none⟩), .int .u64 (hv : Int)] wr fun e w' => e = .returned (.tuple #[]) ∧ S1 w sb db ob size xq xc E (upd H k hv) vl vh m Lv Hh w' ∧ (∀ c, Vb wr 38 1 c → Vb w' 38 1 c) :=
  (Ybulkcosc.c4 sb (k * 2 + 1) (hv : Int) _ wr (h.t.tab.h k hk) (h.t.tab.fr _)).mono (by rintro e w' ⟨rfl, rfl⟩; exact ⟨rfl, h.putH hk hh, fun c hc => hc.set _ _⟩)
theorem S1.c5 {k b : Nat} (h : S1 w sb db ob size xq xc E H vl vh m Lv Hh wr) (hk : k < size) (hb : Vb wr 38 1 b) (ha : Apart db (upd E k (some b)) size) :
    Calls Yba.prog 5 #[.pointer (some ⟨sb, k * 2, none⟩), .pointer (some ⟨b, 0, none⟩)] wr fun e w' => e = .returned (.tuple #[]) ∧ S1 w sb db ob size xq xc (upd E k (some b)) H vl vh m Lv Hh w' ∧ (∀ c, Vb wr 38 1 c → Vb w' 38 1 c) :=
  (Ybulkcosc.c5 sb (k * 2) (some b) _ wr (h.t.tab.e k hk) (h.t.tab.fr _) (fun c hc => by cases hc; exact hb)).mono (by rintro e w' ⟨rfl, rfl⟩; exact ⟨rfl, h.putE hk hb ha, fun c hc => hc.set _ _⟩)

theorem row_push {α : Type} (F : α → Value) (L : Nat → α) (m : Nat) (x : α) : row m (fun k => F (L k)) ++ [F x] = row (m + 1) (fun k => F (upd L m x k)) := by
  rw [← row_snoc, upd_same, row_congr (g := fun k => F (upd L m x k)) (fun k hk => by rw [upd_other _ _ (by omega)])]

/-- the state of the loop that lays the old table -/
def L1 (w : World) (sb db ob size xq : Nat) (xc : Array Value) (i vl vh : Value) (wr : World) : Prop := ∃ (k m : Nat) (E : Nat → Option Nat) (H Lv Hh : Nat → Nat), k ≤ size ∧ m ≤ k ∧ i = .int .i64 (k : Int) ∧ S1 w sb db ob size xq xc E H vl vh m Lv Hh wr ∧ (∀ j, k ≤ j → E j = none) ∧ Lives db size E H Lv Hh m

def TestR (b : Bool) (wr : World) (v : Value) (wx : World) : Prop := v = .bool b ∧ wx = wr

theorem info36 : (Yba.prog.info? 36).map (fun i => (i.zero, i.size, i.bytes)) = some (some (.pointer none), 1, 8) := by kernel_rfl
theorem info41 : (Yba.prog.info? 41).map (fun i => (i.zero, i.size, i.bytes)) = some (some (.int .u64 0), 1, 8) := by kernel_rfl

theorem S1.start (w : World) (size : Nat) : S1 w (w.heap.size + 1) (w.heap.size + 1 + 1) (w.heap.size + 1 + 1 + 1) size w.heap.size #[.pointer none, .int .i64 0, .int .i64 0] (fun _ => none) (fun _ => 0) (.slice none 0 0) (.slice none 0 0) 0 (fun _ => 0) (fun _ => 0)
    ((((w.alloc (.cells #[.pointer none, .int .i64 0, .int .i64 0] 32)).alloc (.cells (mcs slot0 (size * 2)) 51)).alloc (.cells #[.string ⟨#[]⟩] 38)).alloc (.cells #[.slice (some ⟨w.heap.size + 1, 0, none⟩) size size, .pointer (some ⟨w.heap.size + 1 + 1, 0, none⟩)] 40)) := by
  have e1 : (w.alloc (.cells #[.pointer none, .int .i64 0, .int .i64 0] 32)).heap.size = w.heap.size + 1 := by simp
  generalize hw1 : w.alloc (.cells #[.pointer none, .int .i64 0, .int .i64 0] 32) = w1 at e1 ⊢
  have e2 : (w1.alloc (.cells (mcs slot0 (size * 2)) 51)).heap.size = w.heap.size + 1 + 1 := by simp [e1]
  generalize hw2 : w1.alloc (.cells (mcs slot0 (size * 2)) 51) = w2 at e2 ⊢
  have e3 : (w2.alloc (.cells #[.string ⟨#[]⟩] 38)).heap.size = w.heap.size + 1 + 1 + 1 := by simp [e2]
  generalize hw3 : w2.alloc (.cells #[.string ⟨#[]⟩] 38) = w3 at e3 ⊢
  generalize hw4 : w3.alloc (.cells #[.slice (some ⟨w.heap.size + 1, 0, none⟩) size size, .pointer (some ⟨w.heap.size + 1 + 1, 0, none⟩)] 40) = w4
  have b1 : Below w.heap.size w w1 := by rw [← hw1]; exact (Below.refl _ _).alloc (Nat.le_refl _) _
  have b2 : Below w1.heap.size w1 w2 := by rw [← hw2]; exact (Below.refl _ _).alloc (Nat.le_refl _) _
  have b3 : Below w2.heap.size w2 w3 := by rw [← hw3]; exact (Below.refl _ _).alloc (Nat.le_refl _) _
  have b4 : Below w3.heap.size w3 w4 := by rw [← hw4]; exact (Below.refl _ _).alloc (Nat.le_refl _) _
  have b24 : Below w2.heap.size w2 w4 := b3.trans (b4.mono (by omega))
  have b14 : Below w1.heap.size w1 w4 := b2.trans (b24.mono (by omega))
  have b04 : Below w.heap.size w w4 := b1.trans (b14.mono (by omega))
  have x1 : w1.heap[w.heap.size]? = some (.cells #[.pointer none, .int .i64 0, .int .i64 0] 32 (0, 0)) := by rw [← hw1]; exact (MapKept.heap_alloc w _).1
  have x2 : Vb w2 51 (size * 2) (w.heap.size + 1) := by
    have h := Vb.new w1 (mcs slot0 (size * 2)) 51
    rw [hw2, e1] at h
    simpa [mcs, size_madeCells] using h
  have x2t : Tab w2 (w.heap.size + 1) size (fun _ => none) (fun _ => 0) := by
    have h := Tab.made w1 size
    rwa [hw2, e1] at h
  have x3 : Vb w3 38 1 (w.heap.size + 1 + 1) := by
    have h := Vb.new w2 #[.string ⟨#[]⟩] 38
    rw [hw3, e2] at h
    simpa using h
  have x4 : w4.heap[w.heap.size + 1 + 1 + 1]? = some (.cells #[.slice (some ⟨w.heap.size + 1, 0, none⟩) size size, .pointer (some ⟨w.heap.size + 1 + 1, 0, none⟩)] 40 (0, 0)) := by
    rw [← hw4, ← e3]; exact (MapKept.heap_alloc w3 _).1
  exact ⟨⟨b04, by rw [b14.block _ (by omega)]; exact x1, x4, x3.below b4, x2.below b24, x2t.below b24, (fun _ _ _ _ _ h => by cases h), (fun _ _ => by decide), by omega⟩, World.ownsRow_nil _ _ _ _, World.ownsRow_nil _ _ _ _⟩

theorem cl_none (db : Nat) : ∀ n, cl db (fun _ => none) n = 0
  | 0 => rfl
  | n + 1 => by
    show cl db (fun _ => none) n + _ = 0
    rw [cl_none db n]
    rfl

theorem size_of (sel : Int) : ∃ size : Nat, wrap64 (16 * 2 ^ (sel % 3).toNat) = (size : Int) ∧ 16 ≤ size ∧ size ≤ 64 := by
  rcases (by omega : sel % 3 = 0 ∨ sel % 3 = 1 ∨ sel % 3 = 2) with h | h | h
  · exact ⟨16, by rw [h]; simp [wrap64], by omega, by omega⟩
  · exact ⟨32, by rw [h]; simp [wrap64], by omega, by omega⟩
  · exact ⟨64, by rw [h]; simp [wrap64], by omega, by omega⟩


/-! ### the copies of the old table -/
structure S2 (w : World) (sb db ob size xq : Nat) (xc : Array Value) (E : Nat → Option Nat) (H : Nat → Nat) (vl vh vp vq : Value) (m k : Nat) (Lv Hh : Nat → Nat) (wr : World) : Prop where
  s : S1 w sb db ob size xq xc E H vl vh m Lv Hh wr
  op : wr.ownsRow w.heap.size 36 1 vp k (row k fun j => pv (E j))
  oq : wr.ownsRow w.heap.size 41 1 vq k (row k fun j => .int .u64 (H j : Int))
  d1 : ∀ g, vl.ownBlock = some g → vp.ownBlock ≠ some g
  d2 : ∀ g, vh.ownBlock = some g → vq.ownBlock ≠ some g

variable {vp vq : Value} {k : Nat}
theorem S2.below (h : S2 w sb db ob size xq xc E H vl vh vp vq m k Lv Hh wr) (hb : Below wr.heap.size wr w') : S2 w sb db ob size xq xc E H vl vh vp vq m k Lv Hh w' := ⟨h.s.below hb, own_below h.op hb, own_below h.oq hb, h.d1, h.d2⟩

/-- behind the two appends of a round -/
theorem S2.step {w2 w3 w4 w5 : World} {g cap g2 cap2 : Nat} (h : S2 w sb db ob size xq xc E H vl vh vp vq m k Lv Hh wr)
    (h2 : w2 = wr.alloc (.cells #[pv (E k)] 36)) (hg1 : w2.grownBy w3 vp.ownBlock) (ho1 : w3.ownsRow w.heap.size 36 1 (.slice (some ⟨g, 0, none⟩) (k + 1) cap) (k + 1) ((row k fun j => pv (E j)) ++ [pv (E k)])) (ha1 : vp.ownBlock = some g ∨ g = w2.heap.size)
    (h4 : w4 = w3.alloc (.cells #[.int .u64 (H k : Int)] 41)) (hg2 : w4.grownBy w5 vq.ownBlock) (ho2 : w5.ownsRow w.heap.size 41 1 (.slice (some ⟨g2, 0, none⟩) (k + 1) cap2) (k + 1) ((row k fun j => .int .u64 (H j : Int)) ++ [.int .u64 (H k : Int)])) (ha2 : vq.ownBlock = some g2 ∨ g2 = w4.heap.size) :
    S2 w sb db ob size xq xc E H vl vh (.slice (some ⟨g, 0, none⟩) (k + 1) cap) (.slice (some ⟨g2, 0, none⟩) (k + 1) cap2) m (k + 1) Lv Hh w5 := by
  have hA : S2 w sb db ob size xq xc E H vl vh vp vq m k Lv Hh w2 := by rw [h2]; exact h.below ((Below.refl _ _).alloc (Nat.le_refl _) _)
  have t3 := hA.s.t.grow hA.op (Or.inl rfl) hg1
  have l3 := own_grow hA.s.ol hA.op hg1 (Or.inr hA.d1)
  have hh3 := own_grow hA.s.oh hA.op hg1 (Or.inl (by decide))
  have q3 := own_grow hA.oq hA.op hg1 (Or.inl (by decide))
  have b4 : Below w3.heap.size w3 w4 := by rw [h4]; exact (Below.refl _ _).alloc (Nat.le_refl _) _
  have t4 := t3.below b4
  have l4 := own_below l3 b4
  have hh4 := own_below hh3 b4
  have q4 := own_below q3 b4
  have p4 := own_below ho1 b4
  rw [row_snoc k fun j => pv (E j)] at p4
  rw [row_snoc k fun j => .int .u64 (H j : Int)] at ho2
  refine ⟨⟨t4.grow q4 (Or.inr rfl) hg2, own_grow l4 q4 hg2 (Or.inl (by decide)), own_grow hh4 q4 hg2 (Or.inr h.d2)⟩, own_grow p4 q4 hg2 (Or.inl (by decide)), ho2, fun c hc => ?_, fun c hc => ?_⟩
  · simp only [Value.ownBlock, ne_eq, Option.some.injEq]
    intro e
    subst e
    rcases ha1 with e | e
    · exact hA.d1 g hc e
    · have := (hA.s.ol.lt g hc).2
      omega
  · simp only [Value.ownBlock, ne_eq, Option.some.injEq]
    intro e
    subst e
    rcases ha2 with e | e
    · exact hA.d2 g2 hc e
    · have := (hh4.lt g2 hc).2
      omega

def L2 (w : World) (sb db ob size xq : Nat) (xc : Array Value) (E : Nat → Option Nat) (H : Nat → Nat) (vl vh : Value) (m : Nat) (Lv Hh : Nat → Nat) (i vp vq : Value) (wr : World) : Prop := ∃ k : Nat, k ≤ size ∧ i = .int .i64 (k : Int) ∧ S2 w sb db ob size xq xc E H vl vh vp vq m k Lv Hh wr

theorem own_form {w : World} {B e n : Nat} {v : Value} {xs : List Value} (h : w.ownsRow B e 1 v n xs) : ∃ p c, v = .slice p n c ∧ (∀ j, j < n → ∃ g, p = some ⟨g, 0, none⟩ ∧ v.ownBlock = some g) := by
  rcases h.2 with ⟨rfl, rfl⟩ | ⟨g, cap, cur, rfl, _⟩
  · exact ⟨none, 0, rfl, fun j hj => by omega⟩
  · exact ⟨_, cap, rfl, fun j hj => ⟨g, rfl, rfl⟩⟩

theorem T1.setX (h : T1 w sb db ob size xq xc E H wr) (hx : w.heap.size ≤ xq) (i : Nat) (v : Value) : T1 w sb db ob size xq (xc.setIfInBounds i v) E H (wr.setCell ⟨xq, i, none⟩ v) := by
  have hsx : sb ≠ xq := fun e => (h.ne (t := 32) ⟨_, h.xv, rfl⟩ (by decide)) e.symm
  have hox : ob ≠ xq := by
    intro e
    have h1 := h.xv
    rw [← e, h.ov] at h1
    simp at h1
  refine ⟨h.bl.setCell hx _, ?_, by rw [Below.heap_setCell _ _ _ _ hox]; exact h.ov, h.dv.set _ _, h.sv.set _ _, h.tab.other _ hsx, h.ap, h.hH, h.b0⟩
  unfold World.setCell
  simp only [Array.getElem?_modify]
  rw [if_pos trivial, h.xv]
  rfl
theorem S2.setX (h : S2 w sb db ob size xq xc E H vl vh vp vq m k Lv Hh wr) (hx : w.heap.size ≤ xq) (i : Nat) (v : Value) : S2 w sb db ob size xq (xc.setIfInBounds i v) E H vl vh vp vq m k Lv Hh (wr.setCell ⟨xq, i, none⟩ v) := by
  have hV : Vb wr 32 xc.size xq := ⟨_, h.s.t.xv, rfl⟩
  exact ⟨⟨h.s.t.setX hx i v, own_set h.s.ol hV (by decide), own_set h.s.oh hV (by decide)⟩, own_set h.op hV (by decide), own_set h.oq hV (by decide), h.d1, h.d2⟩
theorem T1.xcell (h : T1 w sb db ob size xq xc E H wr) (i : Nat) : wr.cell? ⟨xq, i, none⟩ = xc[i]? := by rw [cell_of_row wr xq i _ _ _ h.xv]
theorem T1.xfr (h : T1 w sb db ob size xq xc E H wr) (i : Nat) : wr.frozen? ⟨xq, i, none⟩ = false := by
  unfold World.frozen?
  simp only
  rw [h.xv]
  simp
theorem S2.c8 (h : S2 w sb db ob size xq xc E H vl vh vp vq m k Lv Hh wr) (hx : w.heap.size ≤ xq) (hc : 0 < xc.size) :
    Calls Yba.prog 8 #[.pointer (some ⟨xq, 0, none⟩), .pointer (some ⟨ob, 0, none⟩)] wr fun e w' => e = .returned (.tuple #[]) ∧ S2 w sb db ob size xq (xc.setIfInBounds 0 (pv (some ob))) E H vl vh vp vq m k Lv Hh w' :=
  (Ybulkcosc.c8 xq 0 (some ob) xc[0] wr (by rw [h.s.t.xcell]; exact Array.getElem?_eq_getElem hc) (h.s.t.xfr 0) (fun c hc => by cases hc; exact ⟨_, h.s.t.ov, rfl⟩)).mono (by rintro e w' ⟨rfl, rfl⟩; exact ⟨rfl, h.setX hx 0 _⟩)
end Go.Proofs.Ybulkcosc
