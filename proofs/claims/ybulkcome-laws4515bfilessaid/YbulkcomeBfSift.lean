import Derived.Test.YbulkcomeBfWalks
import Derived.Shelf.Abstract
namespace Go.Proofs.Ybulkcome
open Go.RowKit

/-- how many of the first n places hold x -/
def cnt : Nat → (Nat → Nat) → Nat → Nat
  | 0, _, _ => 0
  | n + 1, g, x => cnt n g x + if g n = x then 1 else 0

def upd (g : Nat → Nat) (i v : Nat) : Nat → Nat := fun k => if k = i then v else g k
def swp (g : Nat → Nat) (i p : Nat) : Nat → Nat := upd (upd g i (g p)) p (g i)

theorem cnt_congr {n : Nat} {g h : Nat → Nat} (x : Nat) (e : ∀ k, k < n → g k = h k) : cnt n g x = cnt n h x := by
  induction n with
  | zero => rfl
  | succ n ih =>
    unfold cnt
    rw [ih (fun k hk => e k (by omega)), e n (by omega)]

theorem cnt_upd {n : Nat} (g : Nat → Nat) {i : Nat} (v x : Nat) (hi : i < n) : cnt n (upd g i v) x + (if g i = x then 1 else 0) = cnt n g x + (if v = x then 1 else 0) := by
  induction n with
  | zero => omega
  | succ n ih =>
    unfold cnt
    by_cases e : i = n
    · subst e
      rw [cnt_congr (n := i) (g := upd g i v) (h := g) x (fun k hk => by simp [upd]; omega)]
      simp [upd]
      omega
    · have := ih (by omega)
      have e2 : upd g i v n = g n := by simp [upd]; omega
      rw [e2]
      omega

theorem cnt_swp {n : Nat} (g : Nat → Nat) {i p : Nat} (x : Nat) (hi : i < n) (hp : p < n) (hne : i ≠ p) : cnt n (swp g i p) x = cnt n g x := by
  have h1 := cnt_upd (upd g i (g p)) (i := p) (g i) x hp
  have h2 := cnt_upd g (i := i) (g p) x hi
  have e : upd g i (g p) p = g p := by
    unfold upd
    rw [if_neg (by omega)]
  rw [e] at h1
  unfold swp
  omega

theorem cnt_zero {n : Nat} {g : Nat → Nat} {x : Nat} (h : ∀ k, k < n → g k ≠ x) : cnt n g x = 0 := by
  induction n with
  | zero => rfl
  | succ n ih =>
    unfold cnt
    rw [ih (fun k hk => h k (by omega)), if_neg (h n (by omega))]

theorem cnt_one {n : Nat} {g : Nat → Nat} {i : Nat} (hi : i < n) (h : ∀ j k, j < n → k < n → g j = g k → j = k) : cnt n g (g i) = 1 := by
  induction n with
  | zero => omega
  | succ n ih =>
    unfold cnt
    by_cases e : i = n
    · subst e
      rw [cnt_zero (fun k hk he => by have := h k i (by omega) (by omega) he; omega), if_pos rfl]
    · rw [ih (by omega) (fun j k hj hk => h j k (by omega) (by omega)), if_neg (fun he => e (h i n (by omega) (by omega) he.symm))]

/-- w' is w but for block q, and new blocks -/
structure But (q : Nat) (w w' : World) : Prop where
  os : w'.os = w.os
  tape : w'.tape = w.tape
  output : w'.output = w.output
  size : w.heap.size ≤ w'.heap.size
  block : ∀ k, k < w.heap.size → k ≠ q → w'.heap[k]? = w.heap[k]?

theorem But.refl (q : Nat) (w : World) : But q w w := ⟨rfl, rfl, rfl, Nat.le_refl _, fun _ _ _ => rfl⟩
theorem But.trans {q : Nat} {a b c : World} (h : But q a b) (k : But q b c) : But q a c :=
  ⟨k.os.trans h.os, k.tape.trans h.tape, k.output.trans h.output, Nat.le_trans h.size k.size, fun i hi hq => (k.block i (Nat.lt_of_lt_of_le hi h.size) hq).trans (h.block i hi hq)⟩
theorem But.of_below {q : Nat} {w w' : World} (h : Below w.heap.size w w') : But q w w' := ⟨h.os, h.tape, h.output, h.size, fun k hk _ => h.block k hk⟩
theorem But.setCell (q o : Nat) (w : World) (v : Value) : But q w (w.setCell ⟨q, o, none⟩ v) :=
  ⟨rfl, rfl, rfl, by simp [World.setCell], fun _ _ hq => Below.heap_setCell _ _ _ _ hq⟩
theorem But.drewN (q : Nat) (w : World) (n : Nat) : But q w (w.drewN n) := ⟨rfl, rfl, rfl, Nat.le_refl _, fun _ _ _ => rfl⟩
theorem But.cell {q : Nat} {w w' : World} (h : But q w w') {a : Addr} {v : Value} (hc : w.cell? a = some v) (hq : a.block ≠ q) : w'.cell? a = some v := by
  rw [World.cell?_of_block (w := w) (h.block a.block (World.block_lt_of_cell? w a hc) hq)]; exact hc
theorem But.frozen {q : Nat} {w w' : World} (h : But q w w') {a : Addr} (hl : a.block < w.heap.size) (hq : a.block ≠ q) : w'.frozen? a = w.frozen? a :=
  World.frozen?_of_block (w := w) (h.block a.block hl hq)
theorem IsJob.but {q : Nat} {w w' : World} {b : Nat} (h : IsJob w b) (hb : But q w w') (hq : b ≠ q) : IsJob w' b := by
  obtain ⟨⟨k0, k1, k2, sq, h⟩, hz⟩ := h
  exact ⟨⟨k0, k1, k2, sq, hb.cell h.c47 hq, hb.cell h.c48 hq, hb.cell h.c49 hq, hb.cell h.c14 hq⟩, hz.of_block (hb.block b hz.lt hq)⟩

theorem cell_other {w : World} {b o b' o' : Nat} (v : Value) (h : b ≠ b' ∨ o ≠ o') : (w.setCell ⟨b, o, none⟩ v).cell? ⟨b', o', none⟩ = w.cell? ⟨b', o', none⟩ :=
  World.cell?_setCell_other _ _ _ v (by intro e; injection e with e1 e2; omega)

def ptr (b : Nat) : Value := .pointer (some ⟨b, 0, none⟩)

/-- block q is a row of cap cells, the first n of them pointers to jobs -/
structure Row (w : World) (q cap n : Nat) (g : Nat → Nat) : Prop where
  h : ∃ cur : Array Value, w.heap[q]? = some (.cells cur 30 (0, 0)) ∧ cur.size = cap ∧ ∀ k, k < n → cur[k]? = some (ptr (g k))
  j : ∀ k, k < n → IsJob w (g k) ∧ g k ≠ q

theorem Row.c {w : World} {q cap n : Nat} {g : Nat → Nat} (h : Row w q cap n g) (k : Nat) (hk : k < n) : w.cell? ⟨q, k, none⟩ = some (.pointer (some ⟨g k, 0, none⟩)) := by
  obtain ⟨cur, h1, _, h3⟩ := h.h
  unfold World.cell?
  simp only [h1]
  exact h3 k hk

theorem Row.f {w : World} {q cap n : Nat} {g : Nat → Nat} (h : Row w q cap n g) (k : Nat) : w.frozen? ⟨q, k, none⟩ = false := by
  obtain ⟨cur, h1, _, _⟩ := h.h
  unfold World.frozen?
  simp [h1]

theorem Row.lt {w : World} {q cap n : Nat} {g : Nat → Nat} (h : Row w q cap n g) : q < w.heap.size := by
  obtain ⟨cur, h1, _, _⟩ := h.h
  rcases Nat.lt_or_ge q w.heap.size with hlt | hge
  · exact hlt
  · rw [Array.getElem?_eq_none hge] at h1; cases h1

theorem Row.below {w w' : World} {q cap n : Nat} {g : Nat → Nat} (h : Row w q cap n g) (hb : Below w.heap.size w w') : Row w' q cap n g where
  h := by
    obtain ⟨cur, h1, h2, h3⟩ := h.h
    exact ⟨cur, by rw [hb.block q h.lt]; exact h1, h2, h3⟩
  j k hk := ⟨(h.j k hk).1.below hb, (h.j k hk).2⟩

theorem heap_setCell {w : World} {q t : Nat} {cur : Array Value} {fr : Nat × Nat} (o : Nat) (v : Value) (h : w.heap[q]? = some (.cells cur t fr)) : (w.setCell ⟨q, o, none⟩ v).heap[q]? = some (.cells (cur.setIfInBounds o v) t fr) := by
  simp [World.setCell, Array.getElem?_modify, h]

theorem Row.swap {w : World} {q cap n : Nat} {g : Nat → Nat} (h : Row w q cap n g) (hc : n ≤ cap) {i p : Nat} (hi : i < n) (hp : p < n) (hne : i ≠ p) :
    Row ((w.setCell ⟨q, i, none⟩ (.pointer (some ⟨g p, 0, none⟩))).setCell ⟨q, p, none⟩ (.pointer (some ⟨g i, 0, none⟩))) q cap n (swp g i p) where
  h := by
    obtain ⟨cur, h1, h2, h3⟩ := h.h
    refine ⟨_, heap_setCell p _ (heap_setCell i _ h1), by simp [h2], fun k hk => ?_⟩
    have hks : k < cur.size := by omega
    rw [Array.getElem?_setIfInBounds]
    by_cases e : p = k
    · subst e
      rw [if_pos rfl, if_pos (by simpa using hks)]
      simp [swp, upd, ptr]
    · rw [if_neg e, Array.getElem?_setIfInBounds]
      by_cases e2 : i = k
      · subst e2
        rw [if_pos rfl, if_pos hks]
        unfold swp upd ptr
        rw [if_neg (by omega), if_pos rfl]
      · rw [if_neg e2, h3 k hk]
        unfold swp upd
        rw [if_neg (by omega), if_neg (by omega)]
  j k hk := by
    have hb : But q w ((w.setCell ⟨q, i, none⟩ (.pointer (some ⟨g p, 0, none⟩))).setCell ⟨q, p, none⟩ (.pointer (some ⟨g i, 0, none⟩))) := (But.setCell q i w _).trans (But.setCell q p _ _)
    have all : ∀ m, m < n → IsJob ((w.setCell ⟨q, i, none⟩ (.pointer (some ⟨g p, 0, none⟩))).setCell ⟨q, p, none⟩ (.pointer (some ⟨g i, 0, none⟩))) (g m) ∧ g m ≠ q :=
      fun m hm => ⟨(h.j m hm).1.but hb (h.j m hm).2, (h.j m hm).2⟩
    unfold swp upd
    split
    · exact all i hi
    · split
      · exact all p hp
      · exact all k hk

set_option maxHeartbeats 1000000 in
theorem siftUp_any (q n cap i : Nat) (g : Nat → Nat) (w : World) (hi : i < n) (hn : n ≤ 1000) (hcap : n ≤ cap) (hr : Row w q cap n g) :
    Calls Yba.prog 25 #[.slice (some ⟨q, 0, none⟩) n cap, .int .i64 i, .func (.func 26) #[] #[]] w fun e w' => e = .returned (.tuple #[]) ∧ But q w w' ∧ ∃ g', Row w' q cap n g' ∧ ∀ x, cnt n g' x = cnt n g x := by
  have he := enters_of (P := Yba.prog) Yba.func26 (by kernel_rfl) rfl
  have HR := hide hr
  clear hr
  go_enter Yba.func25, Yba.ntmps25
  go_wp2_with fail
  go_loopw [1] (fun t wr => ∃ (k : Nat) (g' : Nat → Nat), k < n ∧ t = .int .i64 k ∧ But q w wr ∧ Row wr q cap n g' ∧ ∀ x, cnt n g' x = cnt n g x) (fun t _ => (intOf t).toNat)
  case atStart => exact ⟨i, g, hi, rfl, But.refl _ _, HR.out, fun _ => rfl⟩
  case round =>
    obtain ⟨k, g', hk, rfl, hbu, hrow, hcn⟩ := hrel
    have HBU := hide hbu
    have HROW := hide hrow
    have HCN := hide hcn
    clear hbu hrow hcn
    by_cases h0 : 0 < k
    · obtain ⟨p, hp⟩ : ∃ p : Nat, ((k : Int) - 1) / 2 = (p : Int) := ⟨(k - 1) / 2, by omega⟩
      have hpk : p < k := by omega
      have hkn : (k : Int) < (n : Int) := by omega
      have hpn : (p : Int) < (n : Int) := by omega
      have hcall := fun W (hb : Below wr.heap.size wr W) => jobFirst_any q k p (g' k) (g' p) W (bcellOf hb (HROW.out.c k hk)) (bcellOf hb (HROW.out.c p (by omega))) ((HROW.out.j k hk).1.below hb) ((HROW.out.j p (by omega)).1.below hb)
      have HC := hide hcall
      clear hcall
      go_wp2_with fail
      rw [hp]
      have c0 := HROW.out.c k hk
      go_region_held (fun w' => w'.cell? ⟨q, k, none⟩ = some (.pointer (some ⟨g' k, 0, none⟩))) (first | (simp [*]; done) | (exact bcellOf (by assumption) (by simp [*])))
        (first | (go_at_call 26; refine (HC.out _ (Below.refl _ _).drew).mono ?_; rintro e w2 ⟨r, rfl, hbe⟩))
      clear c0
      have hb2 : Below wr.heap.size wr w2 := (Below.refl _ _).drew.trans hbe
      have hrow2 := HROW.out.below hb2
      have HROW2 := hide hrow2
      have HB2 := hide hb2
      have c0 := hrow2.c k hk
      have c1 := hrow2.c p (by omega)
      have f0 := hrow2.f k
      have f1 := hrow2.f p
      clear hrow2 hb2 hbe
      cases r
      · go_wp2
        refine bodyPost_ret (results_none rfl _ _ _) rfl ?_
        exact ⟨rfl, HBU.out.trans (But.of_below HB2.out), g', HROW2.out, HCN.out⟩
      · go_wp2_with fail
        have hne1 : ¬ (k = p) := by omega
        have hne2 : ¬ (p = k) := by omega
        go_region
        go_wp2
        refine ⟨⟨p, swp g' k p, by omega, rfl, HBU.out.trans ((But.of_below HB2.out).trans (((But.setCell q k _ _).trans (But.setCell q p _ _)).trans (But.drewN q _ 1))), (HROW2.out.swap hcap hk (by omega) (by omega)).below (bdrewN (Below.refl _ _) 1), fun x => by rw [cnt_swp g' x hk (by omega) (by omega)]; exact HCN.out x⟩, ?_⟩
        simp [intOf]
        omega
    · have hk0 : k = 0 := by omega
      subst hk0
      go_wp2
      go_end0
      exact ⟨rfl, HBU.out, g', HROW.out, HCN.out⟩
end Go.Proofs.Ybulkcome
