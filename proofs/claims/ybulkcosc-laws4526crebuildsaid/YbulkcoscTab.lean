import Derived.Test.YbulkcoscPlain
import Derived.Deep.RegionHeld
import Derived.MapKept
namespace Go.Proofs.Ybulkcosc
open Go.RowKit

theorem hide {p : Prop} (h : p) : Hid p := h

theorem bcellOf {w w' : World} (h : Below w.heap.size w w') {a : Addr} {v : Value} (hc : w.cell? a = some v) : w'.cell? a = some v := by
  rw [h.cell (World.block_lt_of_cell? w a hc)]; exact hc
theorem lt_of_block {w : World} {b : Nat} {o : Obj} (h : w.heap[b]? = some o) : b < w.heap.size := by
  rcases Nat.lt_or_ge b w.heap.size with hlt | hge
  · exact hlt
  · rw [Array.getElem?_eq_none hge] at h; cases h

def pt (b : Nat) : Value := .pointer (some ⟨b, 0, none⟩)

theorem Vb.lt {w : World} {t n b : Nat} (h : Vb w t n b) : b < w.heap.size := by
  obtain ⟨cs, h, _⟩ := h
  exact lt_of_block h
theorem Vb.block {w w' : World} {t n b : Nat} (h : Vb w t n b) (hb : w'.heap[b]? = w.heap[b]?) : Vb w' t n b := by
  obtain ⟨cs, h, hs⟩ := h
  exact ⟨cs, by rw [hb]; exact h, hs⟩
theorem Vb.below {w w' : World} {t n b : Nat} (h : Vb w t n b) (hb : Below w.heap.size w w') : Vb w' t n b := h.block (hb.block b h.lt)
theorem Vb.set {w : World} {t n b : Nat} (h : Vb w t n b) (a : Addr) (v : Value) : Vb (w.setCell a v) t n b := by
  by_cases e : b = a.block
  · obtain ⟨cs, h, hs⟩ := h
    refine ⟨if a.spot.isSome then cs else cs.setIfInBounds a.off v, ?_, ?_⟩
    · unfold World.setCell
      simp only [Array.getElem?_modify]
      rw [if_pos e.symm, h]
      rfl
    · split <;> simp [hs]
  · exact h.block (Below.heap_setCell _ _ _ _ e)
theorem Vb.new (w : World) (cs : Array Value) (t : TypeId) : Vb (w.alloc (.cells cs t)) t cs.size w.heap.size := ⟨cs, (MapKept.heap_alloc w (.cells cs t)).1, rfl⟩

/-- the slots of a table -/
structure Tab (w : World) (sb N : Nat) (E : Nat → Option Nat) (H : Nat → Nat) : Prop where
  e : ∀ j, j < N → w.cell? ⟨sb, j * 2, none⟩ = some (pv (E j))
  h : ∀ j, j < N → w.cell? ⟨sb, j * 2 + 1, none⟩ = some (.int .u64 (H j : Int))
  fr : ∀ j, w.frozen? ⟨sb, j, none⟩ = false
  v : ∀ j b, j < N → E j = some b → Vb w 38 1 b
  lt : sb < w.heap.size

theorem Tab.block {w w' : World} {sb N : Nat} {E : Nat → Option Nat} {H : Nat → Nat} (h : Tab w sb N E H) (hb : w'.heap[sb]? = w.heap[sb]?) (hv : ∀ b, Vb w 38 1 b → Vb w' 38 1 b) (hl : w.heap.size ≤ w'.heap.size) : Tab w' sb N E H :=
  ⟨fun j hj => by rw [World.cell?_of_block (w := w) hb]; exact h.e j hj, fun j hj => by rw [World.cell?_of_block (w := w) hb]; exact h.h j hj, fun j => by rw [World.frozen?_of_block (w := w) hb]; exact h.fr j, fun j b hj he => hv b (h.v j b hj he), Nat.lt_of_lt_of_le h.lt hl⟩
theorem Tab.below {w w' : World} {sb N : Nat} {E : Nat → Option Nat} {H : Nat → Nat} (h : Tab w sb N E H) (hb : Below w.heap.size w w') : Tab w' sb N E H := h.block (hb.block sb h.lt) (fun _ hv => hv.below hb) hb.size
theorem Tab.other {w : World} {sb N : Nat} {E : Nat → Option Nat} {H : Nat → Nat} (h : Tab w sb N E H) {a : Addr} (v : Value) (hne : sb ≠ a.block) : Tab (w.setCell a v) sb N E H :=
  h.block (Below.heap_setCell _ _ _ _ hne) (fun _ hv => hv.set _ _) (by simp)

/-- a slot's hash is laid -/
theorem Tab.putH {w : World} {sb N j x : Nat} {E : Nat → Option Nat} {H : Nat → Nat} (h : Tab w sb N E H) (hj : j < N) : Tab (w.setCell ⟨sb, j * 2 + 1, none⟩ (.int .u64 (x : Int))) sb N E (upd H j x) := by
  refine ⟨fun i hi => ?_, fun i hi => ?_, fun i => by rw [World.frozen?_setCell]; exact h.fr i, fun i b hi he => (h.v i b hi he).set _ _, by simpa using h.lt⟩
  · rw [World.cell?_setCell_other _ _ _ _ (by simp <;> omega)]; exact h.e i hi
  · by_cases e : i = j
    · subst e
      rw [World.cell?_setCell_same _ _ _ (h.h i hi), upd_same]
    · rw [World.cell?_setCell_other _ _ _ _ (by simp <;> omega), upd_other _ _ e]; exact h.h i hi
/-- a slot's entry is laid -/
theorem Tab.putE {w : World} {sb N j : Nat} {p : Option Nat} {E : Nat → Option Nat} {H : Nat → Nat} (h : Tab w sb N E H) (hj : j < N) (hp : ∀ b, p = some b → Vb w 38 1 b) : Tab (w.setCell ⟨sb, j * 2, none⟩ (pv p)) sb N (upd E j p) H := by
  refine ⟨fun i hi => ?_, fun i hi => ?_, fun i => by rw [World.frozen?_setCell]; exact h.fr i, fun i b hi he => ?_, by simpa using h.lt⟩
  · by_cases e : i = j
    · subst e
      rw [World.cell?_setCell_same _ _ _ (h.e i hi), upd_same]
    · rw [World.cell?_setCell_other _ _ _ _ (by simp <;> omega), upd_other _ _ e]; exact h.e i hi
  · rw [World.cell?_setCell_other _ _ _ _ (by simp <;> omega)]; exact h.h i hi
  · by_cases e : i = j
    · subst e
      rw [upd_same] at he
      exact (hp b he).set _ _
    · rw [upd_other _ _ e] at he
      exact (h.v i b hi he).set _ _

/-! ### make -/
def mcs (z : Value) (n : Nat) : Array Value := madeCells z.cells n
def slot0 : Value := .agg #[.pointer none, .int .u64 0]
theorem info51 : (Yba.prog.info? 51).map (fun i => (i.zero, i.size, i.bytes)) = some (some slot0, 2, 16) := by kernel_rfl
theorem make35 (n : Nat) (hn : n ≤ 1024) (w : World) : (Instr.makeSlice 35 (.int .i64 (n : Int)) (.int .i64 (n : Int))).run Yba.prog w = .ok (.slice (some ⟨w.heap.size, 0, none⟩) n n) (w.alloc (.cells (mcs slot0 (n * 2)) 51)) := by
  obtain ⟨i2, hi, hz⟩ := Option.map_eq_some_iff.1 info51
  simp only [Prod.mk.injEq] at hz
  obtain ⟨h1, h2, h3⟩ := hz
  have := run_make (P := Yba.prog) w 35 51 i2 slot0 Yba.underlying35 hi h1 .i64 .i64 n n (by omega) (Int.le_refl _) (by rw [h3]; omega) (by omega)
  rw [h2] at this
  unfold mcs
  simpa using this
theorem mcs_even (n j : Nat) (h : j < n) : (mcs slot0 (n * 2))[j * 2]? = some (.pointer none) := by
  unfold mcs madeCells
  simp only [Array.getElem?_map, Array.getElem?_range]
  rw [if_pos (by omega)]
  show some ((#[Value.pointer none, .int .u64 0] : Array Value)[j * 2 % 2]!) = _
  rw [show j * 2 % 2 = 0 by omega]
  rfl
theorem mcs_odd (n j : Nat) (h : j < n) : (mcs slot0 (n * 2))[j * 2 + 1]? = some (.int .u64 0) := by
  unfold mcs madeCells
  simp only [Array.getElem?_map, Array.getElem?_range]
  rw [if_pos (by omega)]
  show some ((#[Value.pointer none, .int .u64 0] : Array Value)[(j * 2 + 1) % 2]!) = _
  rw [show (j * 2 + 1) % 2 = 1 by omega]
  rfl
theorem Tab.made (w : World) (n : Nat) : Tab (w.alloc (.cells (mcs slot0 (n * 2)) 51)) w.heap.size n (fun _ => none) (fun _ => 0) :=
  ⟨fun j hj => by rw [World.cell?_alloc_at _ _ _ _ rfl]; exact mcs_even n j hj, fun j hj => by rw [World.cell?_alloc_at _ _ _ _ rfl]; exact mcs_odd n j hj, fun j => World.frozen?_alloc_at _ _ _ _ rfl, fun _ _ _ h => (by cases h), by simp⟩

/-! ### the size -/
/-- the least power of two, not below 16, not below 2 n -/
def Sz (n N : Nat) : Prop := ∃ p, 4 ≤ p ∧ p ≤ 10 ∧ N = 2 ^ p ∧ 2 * n ≤ N ∧ (4 < p → 2 ^ (p - 1) < 2 * n)
theorem Sz.uniq {n N M : Nat} (h : Sz n N) (k : Sz n M) : N = M := by
  obtain ⟨p, a1, a2, rfl, a4, a5⟩ := h
  obtain ⟨q, b1, b2, rfl, b4, b5⟩ := k
  rcases Nat.lt_trichotomy p q with hlt | rfl | hlt
  · have := b5 (by omega)
    have h2 : 2 ^ p ≤ 2 ^ (q - 1) := Nat.pow_le_pow_right (by decide) (by omega)
    omega
  · rfl
  · have := a5 (by omega)
    have h2 : 2 ^ q ≤ 2 ^ (p - 1) := Nat.pow_le_pow_right (by decide) (by omega)
    omega
theorem Sz.le {n N : Nat} (h : Sz n N) : 16 ≤ N ∧ N ≤ 1024 ∧ 2 * n ≤ N := by
  obtain ⟨p, a1, a2, rfl, a4, a5⟩ := h
  have h1 : 2 ^ 4 ≤ 2 ^ p := Nat.pow_le_pow_right (by decide) a1
  have h2 : 2 ^ p ≤ 2 ^ 10 := Nat.pow_le_pow_right (by decide) a2
  omega
/-- how far the doubling has come -/
def Dbl (n s : Nat) : Prop := ∃ p, 4 ≤ p ∧ p ≤ 10 ∧ s = 2 ^ p ∧ (4 < p → 2 ^ (p - 1) < 2 * n)
theorem Dbl.start (n : Nat) : Dbl n 16 := ⟨4, by decide, by decide, rfl, fun h => by omega⟩
theorem Dbl.le {n s : Nat} (h : Dbl n s) : 16 ≤ s ∧ s ≤ 1024 := by
  obtain ⟨p, a1, a2, rfl, a5⟩ := h
  have h1 : 2 ^ 4 ≤ 2 ^ p := Nat.pow_le_pow_right (by decide) a1
  have h2 : 2 ^ p ≤ 2 ^ 10 := Nat.pow_le_pow_right (by decide) a2
  omega
theorem Dbl.next {n s : Nat} (h : Dbl n s) (hn : n ≤ 300) (hlt : s < 2 * n) : Dbl n (s * 2) := by
  obtain ⟨p, a1, a2, rfl, a5⟩ := h
  have hp : p < 10 := by
    rcases Nat.lt_or_ge p 10 with h | h
    · exact h
    · have h2 : 2 ^ 10 ≤ 2 ^ p := Nat.pow_le_pow_right (by decide) h
      omega
  exact ⟨p + 1, by omega, by omega, by rw [Nat.pow_succ], fun _ => by simpa using hlt⟩
theorem Dbl.done {n s : Nat} (h : Dbl n s) (hge : ¬ s < 2 * n) : Sz n s := by
  obtain ⟨p, a1, a2, rfl, a5⟩ := h
  exact ⟨p, a1, a2, rfl, by omega, a5⟩

set_option maxHeartbeats 1000000 in
theorem slots_any (n : Nat) (hn : n ≤ 300) (w : World) : Calls Yba.prog 15 #[.int .i64 (n : Int)] w fun e w' => (∃ N : Nat, e = .returned (.int .i64 (N : Int)) ∧ Sz n N) ∧ w' = w := by
  go_enter Yba.func15, Yba.ntmps15
  go_wp2
  go_loop [3] (fun s => ∃ k : Nat, s = .int .i64 (k : Int) ∧ Dbl n k) (fun s => 1024 - (intOf s).toNat)
  case atStart => exact ⟨16, rfl, Dbl.start n⟩
  case round =>
    obtain ⟨k, rfl, hd⟩ := hrel
    have hle := hd.le
    by_cases hlt : k < 2 * n
    · have hnx := hd.next hn hlt
      have HN := hide hnx
      clear hnx hd
      go_wp2_with fail
      go_round
      case rel => exact ⟨k * 2, by go_num, HN.out⟩
      case measure => simp [intOf]; omega
    · have HN := hide (hd.done hlt)
      clear hd
      go_wp2
      go_ret
      exact ⟨⟨k, rfl, HN.out⟩, rfl⟩

set_option maxHeartbeats 1000000 in
theorem probe_any (tb sb N p h : Nat) (w : World) (hp1 : N = 2 ^ p) (hp2 : p ≤ 10) (hN : 16 ≤ N ∧ N ≤ 1024) (hh : h < 2 ^ 64) (hc : w.cell? ⟨tb, 0, none⟩ = some (.slice (some ⟨sb, 0, none⟩) N N)) :
    Calls Yba.prog 16 #[pt tb, .int .u64 (h : Int)] w fun e w' => e = .returned (.tuple #[.int .u64 ((h % N : Nat) : Int), .int .u64 ((N : Int) - 1)]) ∧ w' = w := by
  have ha : bits .and .u64 (h : Int) ((N : Int) - 1) = ((h % N : Nat) : Int) := by subst hp1; exact and_mask h p hh (by omega)
  clear hp1
  unfold pt
  generalize h % N = r at ha ⊢
  go_enter Yba.func16, Yba.ntmps16
  go_wp2
  go_ret2
  exact ⟨rfl, rfl⟩
end Go.Proofs.Ybulkcosc
