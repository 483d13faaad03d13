import Derived.Test.YbulkcoowFmtMap
import Derived.Deep.RegionHeld
import Derived.Shelf.Abstract
namespace Go.Proofs.YbulkcoowFmt
open Go.RowKit

theorem ch_store_float {P : Program} {w : World} {a : Addr} {m : Mode} (k : FloatKind) (n : Nat) : (store a (.float k n) m).run P w = stored P w a (.float k n) m := run_store P w a _ m rfl
theorem ch_store_func {P : Program} {w : World} {a : Addr} {m : Mode} (f : Fn) (x y : Array Value) : (store a (.func f x y) m).run P w = stored P w a (.func f x y) m := run_store P w a _ m rfl
attribute [local go_sem] ch_store_float ch_store_func

theorem bcellOf {w w' : World} (h : Below w.heap.size w w') {a : Addr} {v : Value} (hc : w.cell? a = some v) : w'.cell? a = some v := by
  rw [h.cell (World.block_lt_of_cell? w a hc)]; exact hc
theorem lt_of_block {w : World} {b : Nat} {o : Obj} (h : w.heap[b]? = some o) : b < w.heap.size := by
  rcases Nat.lt_or_ge b w.heap.size with hlt | hge
  · exact hlt
  · rw [Array.getElem?_eq_none hge] at h; cases h
theorem Zb.below {w w' : World} {b : Nat} (h : Zb w b) (hb : Below w.heap.size w w') : Zb w' b := h.of_block (hb.block b h.lt)

/-- the compiler and its map -/
structure Cmp (w : World) (cq mb clock : Nat) (es : Array MapEntry) : Prop where
  c : w.cell? ⟨cq, 0, none⟩ = some (.map (some mb))
  m : w.heap[mb]? = some (.map es clock)
  e : Ents w es.toList
theorem Cmp.below {w w' : World} {cq mb clock : Nat} {es : Array MapEntry} (h : Cmp w cq mb clock es) (hb : Below w.heap.size w w') : Cmp w' cq mb clock es :=
  ⟨bcellOf hb h.c, by rw [hb.block mb (lt_of_block h.m)]; exact h.m, fun x hx => by obtain ⟨b, h1, h2⟩ := h.e x hx; exact ⟨b, h1, h2.below hb⟩⟩
/-- the map holds z for k -/
structure Has (w : World) (es : Array MapEntry) (k : Nat) (z : Int) : Prop where
  b : Zb w k
  v : ∀ e ∈ es.toList, e.key = kp k → e.val = kv z
  x : ∃ e ∈ es.toList, e.key = kp k
theorem Has.below {w w' : World} {es : Array MapEntry} {k : Nat} {z : Int} (h : Has w es k z) (hb : Below w.heap.size w w') : Has w' es k z := ⟨h.b.below hb, h.v, h.x⟩

set_option maxRecDepth 100000 in
set_option maxHeartbeats 1000000 in
theorem constant_any (cq mb clock k : Nat) (es : Array MapEntry) (z : Int) (w : World) (hc : Cmp w cq mb clock es) (hh : Has w es k z) :
    Calls Ybaf.prog 15 #[.pointer (some ⟨cq, 0, none⟩), kp k] w fun e w' => e = .returned (kv z) ∧ Below w.heap.size w w' := by
  have hb1 : Below w.heap.size w (w.alloc (.cells #[.int .i64 0, .float .f64 0, .bool false] 57)) := (Below.refl _ _).alloc (Nat.le_refl _) _
  have hl := lookup_hit _ (hc.below hb1).m (hh.below hb1).b (hc.below hb1).e hh.v hh.x
  have c0 := hc.c
  have lc : cq < w.heap.size := World.block_lt_of_cell? w _ c0
  have HC := hide (And.intro hc (And.intro hh hb1))
  clear hc hh hb1
  unfold kp kv at *
  go_enter Ybaf.func15, Ybaf.ntmps15
  go_wp2
  exact bodyPost_ret (v := .agg #[.int .i64 z, .float .f64 0, .bool false]) (by simp [results, Ybaf.results15, go_sem]) rfl ⟨rfl, ((Below.refl _ _).alloc (Nat.le_refl _) _).alloc (by simp) _⟩

/-! ### the closures -/
set_option maxHeartbeats 1000000 in
/-- the closure of a whole number -/
theorem lit_any (vb : Nat) (s : Value) (z : Int) (w : World) (h : w.cell? ⟨vb, 0, none⟩ = some (.int .i64 z)) :
    Calls Ybaf.prog 16 #[s, .pointer (some ⟨vb, 0, none⟩)] w fun e w' => e = .returned (.int .i64 z) ∧ w' = w := by
  go_enter Ybaf.func16, Ybaf.ntmps16
  go_wp2
  go_ret
  exact ⟨rfl, rfl⟩

set_option maxHeartbeats 1000000 in
/-- the closure of a negation -/
theorem neg_any (cb xb tb vb t : Nat) (cv s : Value) (z l m : Int) (w : World) (hz : R z) (hn : R (0 - z)) (h1 : w.cell? ⟨cb, 0, none⟩ = some cv) (h2 : w.cell? ⟨xb, 0, none⟩ = some (.func (.func 16) #[] #[.pointer (some ⟨vb, 0, none⟩)])) (h3 : w.cell? ⟨tb, 0, none⟩ = some (.pointer (some ⟨t, 0, none⟩)))
    (h4 : w.cell? ⟨vb, 0, none⟩ = some (.int .i64 z)) (h5 : w.cell? ⟨t, 2, none⟩ = some (.int .i64 l)) (h6 : w.cell? ⟨t, 3, none⟩ = some (.int .i64 m)) :
    Calls Ybaf.prog 18 #[s, .pointer (some ⟨cb, 0, none⟩), .pointer (some ⟨xb, 0, none⟩), .pointer (some ⟨tb, 0, none⟩)] w fun e w' => e = .returned (.int .i64 (-z)) ∧ Below w.heap.size w w' := by
  have HS := fun w' => sub_any cv 0 z l m w' ⟨by decide, by decide⟩ hz hn
  have HL := fun (w' : World) (h : w'.cell? ⟨vb, 0, none⟩ = some (.int .i64 z)) => lit_any vb s z w' h
  have H1 := hide HS
  have H2 := hide HL
  clear HS HL
  have HBW := hide (((Below.refl w.heap.size w).alloc (Nat.le_refl _) (.cells #[.int .i64 l, .int .i64 m] 33)).drew)
  go_enter Ybaf.func18, Ybaf.ntmps18
  go_wp2_with fail
  go_region_held (fun w' => w'.cell? ⟨cb, 0, none⟩ = some cv ∧ w'.cell? ⟨xb, 0, none⟩ = some (.func (.func 16) #[] #[.pointer (some ⟨vb, 0, none⟩)]) ∧ w'.cell? ⟨tb, 0, none⟩ = some (.pointer (some ⟨t, 0, none⟩)) ∧ w'.cell? ⟨t, 2, none⟩ = some (.int .i64 l) ∧ w'.cell? ⟨t, 3, none⟩ = some (.int .i64 m) ∧ w'.cell? ⟨vb, 0, none⟩ = some (.int .i64 z))
    (first | (go_simp; done) | (exact ⟨bcellOf HBW.out h1, bcellOf HBW.out h2, bcellOf HBW.out h3, bcellOf HBW.out h5, bcellOf HBW.out h6, bcellOf HBW.out h4⟩))
    (first | (go_at_call 13; refine (H1.out _).mono ?_; rintro e w2 ⟨rfl, rfl⟩)
           | (go_at_call 16; refine (H2.out w.drew h4).mono ?_; rintro e w2 ⟨rfl, rfl⟩))
  go_wp2
  go_ret
  exact ⟨rfl, HBW.out⟩

theorem mkf (fn : Fn) (first cap : Array Value) (w : World) : (Instr.makeFunc fn first cap).run Ybaf.prog w = .ok (.func fn first cap) w := rfl

theorem fld (z : Int) (w : World) : (Instr.field 57 (.agg #[.int .i64 z, .float .f64 0, .bool false]) 0).run Ybaf.prog w = .ok (.int .i64 z) w := by kernel_rfl

def pt (b : Nat) : Value := .pointer (some ⟨b, 0, none⟩)
/-- a function value that answers z; none of its blocks is q -/
def FvL (q : Nat) (w : World) (fv : Value) (z : Int) : Prop := ∃ vb, vb ≠ q ∧ fv = .func (.func 16) #[] #[pt vb] ∧ w.cell? ⟨vb, 0, none⟩ = some (.int .i64 z)
def FvN (q : Nat) (w : World) (fv : Value) (z : Int) : Prop := ∃ cb xb tb vb t cv y l m, cb ≠ q ∧ xb ≠ q ∧ tb ≠ q ∧ vb ≠ q ∧ t ≠ q ∧ R y ∧ R (0 - y) ∧ z = -y ∧ fv = .func (.func 18) #[] #[pt cb, pt xb, pt tb] ∧
  w.cell? ⟨cb, 0, none⟩ = some cv ∧ w.cell? ⟨xb, 0, none⟩ = some (.func (.func 16) #[] #[pt vb]) ∧ w.cell? ⟨tb, 0, none⟩ = some (pt t) ∧ w.cell? ⟨vb, 0, none⟩ = some (.int .i64 y) ∧ w.cell? ⟨t, 2, none⟩ = some (.int .i64 l) ∧ w.cell? ⟨t, 3, none⟩ = some (.int .i64 m)
def Fv (q : Nat) (w : World) (fv : Value) (z : Int) : Prop := FvL q w fv z ∨ FvN q w fv z

theorem Fv.keep {q : Nat} {w w' : World} {fv : Value} {z : Int} (h : Fv q w fv z) (hk : ∀ a v, a.block ≠ q → w.cell? a = some v → w'.cell? a = some v) : Fv q w' fv z := by
  rcases h with ⟨vb, h1, h2, h3⟩ | ⟨cb, xb, tb, vb, t, cv, y, l, m, g1, g2, g3, g4, g5, g6, g7, g8, g9, k1, k2, k3, k4, k5, k6⟩
  · exact Or.inl ⟨vb, h1, h2, hk _ _ h1 h3⟩
  · exact Or.inr ⟨cb, xb, tb, vb, t, cv, y, l, m, g1, g2, g3, g4, g5, g6, g7, g8, g9, hk _ _ g1 k1, hk _ _ g2 k2, hk _ _ g3 k3, hk _ _ g4 k4, hk _ _ g5 k5, hk _ _ g5 k6⟩
theorem Fv.below {q : Nat} {w w' : World} {fv : Value} {z : Int} (h : Fv q w fv z) (hb : Below w.heap.size w w') : Fv q w' fv z := h.keep fun _ _ _ hc => bcellOf hb hc
theorem Fv.set {q : Nat} {w : World} {fv : Value} {z : Int} (h : Fv q w fv z) (i : Nat) (v : Value) : Fv q (w.setCell ⟨q, i, none⟩ v) fv z := h.keep fun a u ha hc => by
  rw [World.cell?_of_block (w := w) (Below.heap_setCell _ _ _ _ ha)]; exact hc

set_option maxRecDepth 100000 in
set_option maxHeartbeats 1000000 in
theorem int_lit (cq t : Nat) (z : Int) (w : World) (h0 : w.cell? ⟨t, 0, none⟩ = some (.int .i64 0)) (h4 : w.cell? ⟨t, 4, none⟩ = some (.int .i64 z)) :
    Calls Ybaf.prog 10 #[pt cq, pt t] w fun e w' => ∃ vb, e = .returned (.func (.func 16) #[] #[pt vb]) ∧ w.heap.size ≤ vb ∧ Below w.heap.size w w' ∧ w'.cell? ⟨vb, 0, none⟩ = some (.int .i64 z) := by
  have hmf := mkf
  have lt : t < w.heap.size := World.block_lt_of_cell? w _ h0
  have lt1 : t < w.heap.size + 1 := by omega
  have lt2 : t < w.heap.size + 1 + 1 := by omega
  unfold pt
  go_enter Ybaf.func10, Ybaf.ntmps10
  go_wp2
  go_ret
  refine ⟨w.heap.size + 1 + 1, rfl, by omega, (((Below.refl _ _).alloc (Nat.le_refl _) _).alloc (by simp) _).alloc (by simp; omega) _, by go_simp⟩

set_option maxRecDepth 100000 in
set_option maxHeartbeats 1000000 in
theorem int_const (cq mb clock t k : Nat) (es : Array MapEntry) (z y : Int) (w : World) (hc : Cmp w cq mb clock es) (hh : Has w es k z) (h0 : w.cell? ⟨t, 0, none⟩ = some (.int .i64 3)) (h4 : w.cell? ⟨t, 4, none⟩ = some (.int .i64 y)) (h7 : w.cell? ⟨t, 7, none⟩ = some (kp k)) :
    Calls Ybaf.prog 10 #[pt cq, pt t] w fun e w' => ∃ vb, e = .returned (.func (.func 16) #[] #[pt vb]) ∧ w.heap.size ≤ vb ∧ Below w.heap.size w w' ∧ w'.cell? ⟨vb, 0, none⟩ = some (.int .i64 z) := by
  have hmf := mkf
  have hfl := fld
  have lt : t < w.heap.size := World.block_lt_of_cell? w _ h0
  have lt1 : t < w.heap.size + 1 := by omega
  have lt2 : t < w.heap.size + 1 + 1 := by omega
  have hbW : Below w.heap.size w (((w.alloc (.cells #[pt cq] 37)).alloc (.cells #[pt t] 43)).alloc (.cells #[.int .i64 y] 2)) := (((Below.refl _ _).alloc (Nat.le_refl _) _).alloc (by simp) _).alloc (by simp; omega) _
  have hK := constant_any cq mb clock k es z _ ((hc.below hbW).below (Below.refl _ _).drew) ((hh.below hbW).below (Below.refl _ _).drew)
  have HK := hide hK
  have HB := hide hbW
  have q7 := bcellOf hbW h7
  clear hK hbW hc hh
  unfold pt kp at *
  go_enter Ybaf.func10, Ybaf.ntmps10
  go_wp2_with fail
  have k0 : (((w.alloc (.cells #[.pointer (some ⟨cq, 0, none⟩)] 37)).alloc (.cells #[.pointer (some ⟨t, 0, none⟩)] 43)).alloc (.cells #[.int .i64 y] 2)).cell? ⟨w.heap.size, 0, none⟩ = some (.pointer (some ⟨cq, 0, none⟩)) := by go_simp
  have k1 : (((w.alloc (.cells #[.pointer (some ⟨cq, 0, none⟩)] 37)).alloc (.cells #[.pointer (some ⟨t, 0, none⟩)] 43)).alloc (.cells #[.int .i64 y] 2)).cell? ⟨w.heap.size + 1, 0, none⟩ = some (.pointer (some ⟨t, 0, none⟩)) := by go_simp
  have k2 : (((w.alloc (.cells #[.pointer (some ⟨cq, 0, none⟩)] 37)).alloc (.cells #[.pointer (some ⟨t, 0, none⟩)] 43)).alloc (.cells #[.int .i64 y] 2)).cell? ⟨w.heap.size + 1 + 1, 0, none⟩ = some (.int .i64 y) := by go_simp
  have k3 : (((w.alloc (.cells #[.pointer (some ⟨cq, 0, none⟩)] 37)).alloc (.cells #[.pointer (some ⟨t, 0, none⟩)] 43)).alloc (.cells #[.int .i64 y] 2)).frozen? ⟨w.heap.size + 1 + 1, 0, none⟩ = false := by go_simp
  have k4 : w.heap.size + 1 + 1 < (((w.alloc (.cells #[.pointer (some ⟨cq, 0, none⟩)] 37)).alloc (.cells #[.pointer (some ⟨t, 0, none⟩)] 43)).alloc (.cells #[.int .i64 y] 2)).heap.size := by simp
  generalize (((w.alloc (.cells #[.pointer (some ⟨cq, 0, none⟩)] 37)).alloc (.cells #[.pointer (some ⟨t, 0, none⟩)] 43)).alloc (.cells #[.int .i64 y] 2)) = W at HK HB q7 k0 k1 k2 k3 k4 ⊢
  have K4 := hide k4
  clear k4
  go_region_held (fun w' => w'.cell? ⟨w.heap.size, 0, none⟩ = some (.pointer (some ⟨cq, 0, none⟩)) ∧ w'.cell? ⟨w.heap.size + 1, 0, none⟩ = some (.pointer (some ⟨t, 0, none⟩)) ∧ w'.cell? ⟨t, 7, none⟩ = some (.pointer (some ⟨k, 0, none⟩)))
    (first | (go_simp; done) | (refine ⟨?_, ?_, ?_⟩ <;> assumption))
    (first | (go_at_call 15; refine HK.out.mono ?_; rintro e w2 ⟨rfl, hbe⟩
              have m0 : w2.cell? ⟨w.heap.size, 0, none⟩ = some (.pointer (some ⟨cq, 0, none⟩)) := bcellOf hbe k0
              have m1 : w2.cell? ⟨w.heap.size + 1, 0, none⟩ = some (.pointer (some ⟨t, 0, none⟩)) := bcellOf hbe k1
              have m2 : w2.cell? ⟨w.heap.size + 1 + 1, 0, none⟩ = some (.int .i64 y) := bcellOf hbe k2
              have m3 : w2.frozen? ⟨w.heap.size + 1 + 1, 0, none⟩ = false := (hbe.frozen (p := ⟨w.heap.size + 1 + 1, 0, none⟩) K4.out).trans k3
              have m4 : w2.cell? ⟨t, 7, none⟩ = some (.pointer (some ⟨k, 0, none⟩)) := bcellOf hbe q7
              have HB2 := hide (HB.out.trans ((Below.refl _ _).drew.trans (hbe.mono (HB.out.size))))
              clear hbe
              unfold kv))
  go_wp2
  go_ret
  exact ⟨w.heap.size + 1 + 1, rfl, by omega, HB2.out.setCell (by simp; omega) _, World.cell?_setCell_same _ _ _ m2⟩

set_option maxRecDepth 100000 in
set_option maxHeartbeats 2000000 in
theorem int_neg (cq t ab t2 : Nat) (y : Int) (w : World) (h0 : w.cell? ⟨t, 0, none⟩ = some (.int .i64 6)) (h11 : w.cell? ⟨t, 11, none⟩ = some (.slice (some ⟨ab, 0, none⟩) 1 1)) (ha : w.cell? ⟨ab, 0, none⟩ = some (pt t2))
    (g0 : w.cell? ⟨t2, 0, none⟩ = some (.int .i64 0)) (g4 : w.cell? ⟨t2, 4, none⟩ = some (.int .i64 y)) :
    Calls Ybaf.prog 10 #[pt cq, pt t] w fun e w' => ∃ cb xb tb vb, e = .returned (.func (.func 18) #[] #[pt cb, pt xb, pt tb]) ∧ w.heap.size ≤ cb ∧ w.heap.size ≤ xb ∧ w.heap.size ≤ tb ∧ w.heap.size ≤ vb ∧ Below w.heap.size w w' ∧
      w'.cell? ⟨cb, 0, none⟩ = some (pt cq) ∧ w'.cell? ⟨xb, 0, none⟩ = some (.func (.func 16) #[] #[pt vb]) ∧ w'.cell? ⟨tb, 0, none⟩ = some (pt t) ∧ w'.cell? ⟨vb, 0, none⟩ = some (.int .i64 y) := by
  have hmf := mkf
  have lt : t < w.heap.size := World.block_lt_of_cell? w _ h0
  have lt1 : t < w.heap.size + 1 := by omega
  have lt2 : t < w.heap.size + 1 + 1 := by omega
  have hbW : Below w.heap.size w ((w.alloc (.cells #[.pointer (some ⟨cq, 0, none⟩)] 37)).alloc (.cells #[.pointer (some ⟨t, 0, none⟩)] 43)) := ((Below.refl _ _).alloc (Nat.le_refl _) _).alloc (by simp) _
  have q0 := bcellOf hbW g0
  have q4 := bcellOf hbW g4
  have q11 := bcellOf hbW h11
  have qa := bcellOf hbW ha
  have HI := hide (fun (w' : World) (a : w'.cell? ⟨t2, 0, none⟩ = some (.int .i64 0)) (b : w'.cell? ⟨t2, 4, none⟩ = some (.int .i64 y)) => int_lit cq t2 y w' a b)
  have HB := hide hbW
  clear hbW
  unfold pt at *
  go_enter Ybaf.func10, Ybaf.ntmps10
  go_wp2_with fail
  have k0 : ((w.alloc (.cells #[.pointer (some ⟨cq, 0, none⟩)] 37)).alloc (.cells #[.pointer (some ⟨t, 0, none⟩)] 43)).cell? ⟨w.heap.size, 0, none⟩ = some (.pointer (some ⟨cq, 0, none⟩)) := by go_simp
  have k1 : ((w.alloc (.cells #[.pointer (some ⟨cq, 0, none⟩)] 37)).alloc (.cells #[.pointer (some ⟨t, 0, none⟩)] 43)).cell? ⟨w.heap.size + 1, 0, none⟩ = some (.pointer (some ⟨t, 0, none⟩)) := by go_simp
  generalize ((w.alloc (.cells #[.pointer (some ⟨cq, 0, none⟩)] 37)).alloc (.cells #[.pointer (some ⟨t, 0, none⟩)] 43)) = W at HB q0 q4 q11 qa k0 k1 ⊢
  have HBA := hide (((Below.refl W.heap.size W).alloc (Nat.le_refl _) (.cells #[.nilFunc] 59)).drew)
  have lW : w.heap.size + 1 < W.heap.size := World.block_lt_of_cell? W _ k1
  have LW := hide lW
  have n0 : ¬ (w.heap.size = W.heap.size) := by omega
  have n1 : ¬ (w.heap.size + 1 = W.heap.size) := by omega
  have n2 : ¬ (t = W.heap.size) := by have : t < W.heap.size := World.block_lt_of_cell? W _ q11; omega
  have n3 : ¬ (ab = W.heap.size) := by have : ab < W.heap.size := World.block_lt_of_cell? W _ qa; omega
  clear lW h0 h11 ha g0 g4
  go_region_held (fun w' => w'.cell? ⟨w.heap.size, 0, none⟩ = some (.pointer (some ⟨cq, 0, none⟩)) ∧ w'.cell? ⟨w.heap.size + 1, 0, none⟩ = some (.pointer (some ⟨t, 0, none⟩)) ∧ w'.cell? ⟨t, 11, none⟩ = some (.slice (some ⟨ab, 0, none⟩) 1 1) ∧ w'.cell? ⟨ab, 0, none⟩ = some (.pointer (some ⟨t2, 0, none⟩)))
    (first | (go_simp; done) | (exact ⟨bcellOf HBA.out k0, bcellOf HBA.out k1, bcellOf HBA.out q11, bcellOf HBA.out qa⟩) | (exact ⟨bcellOf (HB2A.out _) m0, bcellOf (HB2A.out _) m1, bcellOf (HB2A.out _) m2, bcellOf (HB2A.out _) m3⟩) | (refine ⟨?_, ?_, ?_, ?_⟩ <;> assumption))
    (first | (go_at_call 10; refine (HI.out W.drew q0 q4).mono ?_; rintro e w2 ⟨vb, rfl, hvb, hbe, hv⟩
              have m0 : w2.cell? ⟨w.heap.size, 0, none⟩ = some (.pointer (some ⟨cq, 0, none⟩)) := bcellOf hbe k0
              have m1 : w2.cell? ⟨w.heap.size + 1, 0, none⟩ = some (.pointer (some ⟨t, 0, none⟩)) := bcellOf hbe k1
              have m2 : w2.cell? ⟨t, 11, none⟩ = some (.slice (some ⟨ab, 0, none⟩) 1 1) := bcellOf hbe q11
              have m3 : w2.cell? ⟨ab, 0, none⟩ = some (.pointer (some ⟨t2, 0, none⟩)) := bcellOf hbe qa
              have HB2A : Hid (∀ o, Below w2.heap.size w2 (w2.alloc o)) := fun o => (Below.refl _ _).alloc (Nat.le_refl _) _
              have HBE := hide hbe
              have HV := hide (And.intro hvb hv)
              clear hbe hvb hv)
           | (go_at_call 10; refine (HI.out (W.alloc (.cells #[.nilFunc] 59)).drew (bcellOf HBA.out q0) (bcellOf HBA.out q4)).mono ?_; rintro e w2 ⟨vb, rfl, hvb, hbe, hv⟩
              have m0 : w2.cell? ⟨w.heap.size, 0, none⟩ = some (.pointer (some ⟨cq, 0, none⟩)) := bcellOf hbe (bcellOf HBA.out k0)
              have m1 : w2.cell? ⟨w.heap.size + 1, 0, none⟩ = some (.pointer (some ⟨t, 0, none⟩)) := bcellOf hbe (bcellOf HBA.out k1)
              have m2 : w2.cell? ⟨t, 11, none⟩ = some (.slice (some ⟨ab, 0, none⟩) 1 1) := bcellOf hbe (bcellOf HBA.out q11)
              have m3 : w2.cell? ⟨ab, 0, none⟩ = some (.pointer (some ⟨t2, 0, none⟩)) := bcellOf hbe (bcellOf HBA.out qa)
              have m4 : w2.cell? ⟨W.heap.size, 0, none⟩ = some .nilFunc := bcellOf hbe (by go_simp)
              have m5 : w2.frozen? ⟨W.heap.size, 0, none⟩ = false := (hbe.frozen (p := ⟨W.heap.size, 0, none⟩) (by simp)).trans (by go_simp)
              have HBE := hide hbe
              have HV := hide (And.intro hvb hv)
              clear hbe hvb hv))
  · rename_i hH
    have HH := hide hH
    clear hH
    go_wp2
    go_ret
    have s1 := HB.out.size
    have s2 : W.heap.size ≤ w2.heap.size := HBE.out.size
    have s3 : W.heap.size ≤ vb := HV.out.1
    have hB2 : Below w.heap.size w w2 := HB.out.trans ((Below.refl _ _).drew.trans (HBE.out.mono s1))
    exact ⟨w.heap.size, w2.heap.size, w.heap.size + 1, vb, rfl, Nat.le_refl _, by omega, by omega, by omega, hB2.alloc (by omega) _, HH.out.1, by go_simp, HH.out.2.1, bcellOf (HB2A.out _) HV.out.2⟩
  · rename_i hH
    have HH := hide hH
    clear hH
    go_wp2
    go_ret
    have s1 := HB.out.size
    have s2 : W.heap.size + 1 ≤ w2.heap.size := by have := HBE.out.size; simpa using this
    have s3 : W.heap.size + 1 ≤ vb := by have := HV.out.1; simpa using this
    have hB2 : Below w.heap.size w w2 := HB.out.trans ((HBA.out.mono s1).trans (HBE.out.mono (by simp; omega)))
    exact ⟨w.heap.size, W.heap.size, w.heap.size + 1, vb, rfl, Nat.le_refl _, by omega, by omega, by omega, hB2.setCell (by omega) _, HH.out.1, World.cell?_setCell_same _ _ _ m4, HH.out.2.1, by rw [World.cell?_of_block (w := w2) (Below.heap_setCell _ _ _ _ (show vb ≠ W.heap.size by omega))]; exact HV.out.2⟩

/-- a term that compiles to the value z -/
def TmI (w : World) (t : Nat) (z : Int) : Prop := w.cell? ⟨t, 0, none⟩ = some (.int .i64 0) ∧ w.cell? ⟨t, 4, none⟩ = some (.int .i64 z)
def TmC (w : World) (es : Array MapEntry) (t : Nat) (z : Int) : Prop := ∃ k y, w.cell? ⟨t, 0, none⟩ = some (.int .i64 3) ∧ w.cell? ⟨t, 4, none⟩ = some (.int .i64 y) ∧ w.cell? ⟨t, 7, none⟩ = some (kp k) ∧ Has w es k z
def TmN (w : World) (t : Nat) (z : Int) : Prop := ∃ ab t2 y l m, z = -y ∧ R y ∧ R (0 - y) ∧ w.cell? ⟨t, 0, none⟩ = some (.int .i64 6) ∧ w.cell? ⟨t, 2, none⟩ = some (.int .i64 l) ∧ w.cell? ⟨t, 3, none⟩ = some (.int .i64 m) ∧
  w.cell? ⟨t, 11, none⟩ = some (.slice (some ⟨ab, 0, none⟩) 1 1) ∧ w.cell? ⟨ab, 0, none⟩ = some (pt t2) ∧ TmI w t2 y
def Tm (w : World) (es : Array MapEntry) (t : Nat) (z : Int) : Prop := TmI w t z ∨ TmC w es t z ∨ TmN w t z
theorem Tm.below {w w' : World} {es : Array MapEntry} {t : Nat} {z : Int} (h : Tm w es t z) (hb : Below w.heap.size w w') : Tm w' es t z := by
  rcases h with ⟨h0, h4⟩ | ⟨k, y, h0, h4, h7, hh⟩ | ⟨ab, t2, y, l, m, e1, e2, e3, h0, h2, h3, h11, ha, g0, g4⟩
  · exact Or.inl ⟨bcellOf hb h0, bcellOf hb h4⟩
  · exact Or.inr (Or.inl ⟨k, y, bcellOf hb h0, bcellOf hb h4, bcellOf hb h7, hh.below hb⟩)
  · exact Or.inr (Or.inr ⟨ab, t2, y, l, m, e1, e2, e3, bcellOf hb h0, bcellOf hb h2, bcellOf hb h3, bcellOf hb h11, bcellOf hb ha, bcellOf hb g0, bcellOf hb g4⟩)

theorem int_any (q cq mb clock t : Nat) (es : Array MapEntry) (z : Int) (w : World) (hc : Cmp w cq mb clock es) (ht : Tm w es t z) (hq : q < w.heap.size) (htq : t ≠ q) :
    Calls Ybaf.prog 10 #[pt cq, pt t] w fun e w' => ∃ fv, e = .returned fv ∧ Below w.heap.size w w' ∧ Fv q w' fv z ∧ (∃ f c, fv = .func f #[] c) := by
  rcases ht with ⟨h0, h4⟩ | ⟨k, y, h0, h4, h7, hh⟩ | ⟨ab, t2, y, l, m, e1, e2, e3, h0, h2, h3, h11, ha, g0, g4⟩
  · refine (int_lit cq t z w h0 h4).mono ?_
    rintro e w' ⟨vb, rfl, hv, hb, hc'⟩
    exact ⟨_, rfl, hb, Or.inl ⟨vb, by omega, rfl, hc'⟩, _, _, rfl⟩
  · refine (int_const cq mb clock t k es z y w hc hh h0 h4 h7).mono ?_
    rintro e w' ⟨vb, rfl, hv, hb, hc'⟩
    exact ⟨_, rfl, hb, Or.inl ⟨vb, by omega, rfl, hc'⟩, _, _, rfl⟩
  · refine (int_neg cq t ab t2 y w h0 h11 ha g0 g4).mono ?_
    rintro e w' ⟨cb, xb, tb, vb, rfl, k1, k2, k3, k4, hb, c1, c2, c3, c4⟩
    exact ⟨_, rfl, hb, Or.inr ⟨cb, xb, tb, vb, t, pt cq, y, l, m, by omega, by omega, by omega, by omega, htq, e2, e3, e1, rfl, c1, c2, c3, c4, bcellOf hb h2, bcellOf hb h3⟩, _, _, rfl⟩

/-- a function value that answers z, called -/
theorem fv_calls {q : Nat} {w : World} {fv : Value} {z : Int} (h : Fv q w fv z) (s : Value) :
    ∃ f c, fv = .func (.func f) #[] c ∧ (∀ args w, (callFunc f args).run Ybaf.prog w = .ok (.enter f args) w) ∧ Calls Ybaf.prog f (#[s] ++ c) w fun e w' => e = .returned (.int .i64 z) ∧ Below w.heap.size w w' := by
  rcases h with ⟨vb, h1, rfl, h3⟩ | ⟨cb, xb, tb, vb, t, cv, y, l, m, g1, g2, g3, g4, g5, g6, g7, rfl, rfl, k1, k2, k3, k4, k5, k6⟩
  · refine ⟨16, _, rfl, enters_of Ybaf.func16 (by kernel_rfl) rfl, (lit_any vb s z w h3).mono ?_⟩
    rintro e w' ⟨rfl, rfl⟩
    exact ⟨rfl, Below.refl _ _⟩
  · exact ⟨18, _, rfl, enters_of Ybaf.func18 (by kernel_rfl) rfl, neg_any cb xb tb vb t cv s y l m w g6 g7 k1 k2 k3 k4 k5 k6⟩
end Go.Proofs.YbulkcoowFmt
