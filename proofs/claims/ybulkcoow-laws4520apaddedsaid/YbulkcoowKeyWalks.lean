import Derived.Test.YbulkcoowRows
import Derived.WalkKit
import Derived.WalkSpells
import Derived.WalkLawsBesides
import Derived.BigQuiet
import Derived.Deep.QuietTactic
import Derived.Deep.RegionWith
import Derived.Deep.OwnRows
import Derived.Lib.EndianBits
namespace Go.Proofs.Ybulkcoow
open Go.RowKit

theorem hide {p : Prop} (h : p) : Hid p := h

/-- what PutUint32 leaves -/
def put4 (w : World) (b o : Nat) (v : Int) : World :=
  ((((w.setCell ⟨b, o, none⟩ (.int .u8 (v % 256))).setCell ⟨b, o + 1, none⟩ (.int .u8 (v / 256 % 256))).setCell ⟨b, o + 2, none⟩ (.int .u8 (v / 65536 % 256))).setCell ⟨b, o + 3, none⟩ (.int .u8 (v / 16777216))).alloc (.cells #[] 68)

set_option maxHeartbeats 400000 in
theorem put32 (b o n c : Nat) (v : Int) (v0 : 0 ≤ v) (v1 : v < 4294967296) (w : World) (hn : 4 ≤ n)
    (c0 : ∃ x, w.cell? ⟨b, o, none⟩ = some x) (c1 : ∃ x, w.cell? ⟨b, o + 1, none⟩ = some x) (c2 : ∃ x, w.cell? ⟨b, o + 2, none⟩ = some x) (c3 : ∃ x, w.cell? ⟨b, o + 3, none⟩ = some x)
    (f0 : w.frozen? ⟨b, o, none⟩ = false) (f1 : w.frozen? ⟨b, o + 1, none⟩ = false) (f2 : w.frozen? ⟨b, o + 2, none⟩ = false) (f3 : w.frozen? ⟨b, o + 3, none⟩ = false) (hb : b < w.heap.size) :
    Calls Yba.prog 11 #[.agg #[], .slice (some ⟨b, o, none⟩) n c, .int .u32 v] w fun e w' => e = .returned (.tuple #[]) ∧ w' = put4 w b o v := by
  obtain ⟨x0, c0⟩ := c0
  obtain ⟨x1, c1⟩ := c1
  obtain ⟨x2, c2⟩ := c2
  obtain ⟨x3, c3⟩ := c3
  have n0 : (0 : Int) < n := by omega
  have n1 : (1 : Int) < n := by omega
  have n2 : (2 : Int) < n := by omega
  have n3 : (3 : Int) < n := by omega
  go_enter Yba.func11, Yba.ntmps11
  go_wp2
  go_end0
  exact ⟨rfl, rfl⟩

theorem cell_other {w : World} {b o b' o' : Nat} (v : Value) (h : b ≠ b' ∨ o ≠ o') : (w.setCell ⟨b, o, none⟩ v).cell? ⟨b', o', none⟩ = w.cell? ⟨b', o', none⟩ :=
  World.cell?_setCell_other _ _ _ v (by intro e; injection e with e1 e2; omega)

theorem size_put4 (w : World) (b o : Nat) (v : Int) : (put4 w b o v).heap.size = w.heap.size + 1 := by
  simp [put4, World.setCell]

theorem frozen_put4 {w : World} {b o : Nat} {v : Int} {b' o' : Nat} (hb : b' < w.heap.size) : (put4 w b o v).frozen? ⟨b', o', none⟩ = w.frozen? ⟨b', o', none⟩ := by
  unfold put4
  rw [World.frozen?_alloc_past _ _ _ (by simpa [World.setCell] using hb)]
  simp

theorem cell_put4_out {w : World} {b o : Nat} {v : Int} {b' o' : Nat} (hb : b' < w.heap.size) (h : b ≠ b' ∨ o' < o ∨ o + 4 ≤ o') : (put4 w b o v).cell? ⟨b', o', none⟩ = w.cell? ⟨b', o', none⟩ := by
  unfold put4
  rw [World.cell?_alloc_past _ _ _ (by simpa [World.setCell] using hb), cell_other _ (by omega), cell_other _ (by omega), cell_other _ (by omega), cell_other _ (by omega)]

theorem below_put4 (w : World) (b o : Nat) (v : Int) (hb : b < w.heap.size) : Below b w (put4 w b o v) := by
  unfold put4
  exact (((((Below.refl b w).setCell (Nat.le_refl _) _).setCell (Nat.le_refl _) _).setCell (Nat.le_refl _) _).setCell (Nat.le_refl _) _).alloc (by simp [World.setCell]; omega) _

/-- byte j of the numbers zs, four bytes each, the least first -/
def byteOf (zs : Nat → Int) (j : Nat) : Int :=
  if j % 4 = 0 then zs (j / 4) % 256 else if j % 4 = 1 then zs (j / 4) / 256 % 256 else if j % 4 = 2 then zs (j / 4) / 65536 % 256 else zs (j / 4) / 16777216

theorem cell_put4_in {w : World} {b p : Nat} {zs : Nat → Int} {j : Nat} (hb : b < w.heap.size) (hc : ∀ i, 4 * p ≤ i → i < 4 * p + 4 → ∃ x, w.cell? ⟨b, i, none⟩ = some x) (h1 : 4 * p ≤ j) (h2 : j < 4 * p + 4) :
    (put4 w b (4 * p) (zs p)).cell? ⟨b, j, none⟩ = some (.int .u8 (byteOf zs j)) := by
  obtain ⟨x0, c0⟩ := hc (4 * p) (by omega) (by omega)
  obtain ⟨x1, c1⟩ := hc (4 * p + 1) (by omega) (by omega)
  obtain ⟨x2, c2⟩ := hc (4 * p + 2) (by omega) (by omega)
  obtain ⟨x3, c3⟩ := hc (4 * p + 3) (by omega) (by omega)
  unfold put4
  rw [World.cell?_alloc_past _ _ _ (by simpa [World.setCell] using hb)]
  have hj : j = 4 * p ∨ j = 4 * p + 1 ∨ j = 4 * p + 2 ∨ j = 4 * p + 3 := by omega
  rcases hj with rfl | rfl | rfl | rfl
  · rw [cell_other _ (by omega), cell_other _ (by omega), cell_other _ (by omega), World.cell?_setCell_same _ _ _ c0]
    unfold byteOf
    rw [if_pos (by omega), show 4 * p / 4 = p from by omega]
  · rw [cell_other _ (by omega), cell_other _ (by omega), World.cell?_setCell_same (u := x1) _ _ _ (by rw [cell_other _ (by omega)]; exact c1)]
    unfold byteOf
    rw [if_neg (by omega), if_pos (by omega), show (4 * p + 1) / 4 = p from by omega]
  · rw [cell_other _ (by omega), World.cell?_setCell_same (u := x2) _ _ _ (by rw [cell_other _ (by omega), cell_other _ (by omega)]; exact c2)]
    unfold byteOf
    rw [if_neg (by omega), if_neg (by omega), if_pos (by omega), show (4 * p + 2) / 4 = p from by omega]
  · rw [World.cell?_setCell_same (u := x3) _ _ _ (by rw [cell_other _ (by omega), cell_other _ (by omega), cell_other _ (by omega)]; exact c3)]
    unfold byteOf
    rw [if_neg (by omega), if_neg (by omega), if_neg (by omega), show (4 * p + 3) / 4 = p from by omega]

/-- the key's block behind p numbers -/
structure KS (w0 : World) (kb L : Nat) (zs : Nat → Int) (p : Nat) (w : World) : Prop where
  be : Below kb w0 w
  sz : kb < w.heap.size
  c : ∀ j, j < L → w.cell? ⟨kb, j, none⟩ = some (.int .u8 (if j < 4 * p then byteOf zs j else 0))
  f : ∀ j, w.frozen? ⟨kb, j, none⟩ = false

theorem KS.step {w0 : World} {kb L : Nat} {zs : Nat → Int} {p : Nat} {w : World} (h : KS w0 kb L zs p w) (hp : 4 * p + 4 ≤ L) : KS w0 kb L zs (p + 1) (put4 w kb (4 * p) (zs p)) where
  be := h.be.trans (below_put4 _ _ _ _ h.sz)
  sz := by rw [size_put4]; have := h.sz; omega
  c j hj := by
    by_cases hin : 4 * p ≤ j ∧ j < 4 * p + 4
    · rw [cell_put4_in h.sz (fun i h1 h2 => ⟨_, h.c i (by omega)⟩) hin.1 hin.2, if_pos (by omega)]
    · rw [cell_put4_out h.sz (by omega), h.c j hj]
      by_cases l : j < 4 * p
      · rw [if_pos l, if_pos (by omega)]
      · rw [if_neg l, if_neg (by omega)]
  f j := by rw [frozen_put4 h.sz]; exact h.f j

theorem KS.drew {w0 : World} {kb L : Nat} {zs : Nat → Int} {p : Nat} {w : World} (h : KS w0 kb L zs p w) : KS w0 kb L zs p w.drew :=
  ⟨h.be.drew, h.sz, h.c, h.f⟩

theorem bdrewN {B : Nat} {a w : World} (h : Below B a w) (n : Nat) : Below B a (w.drewN n) := h.trans ⟨rfl, rfl, rfl, Nat.le_refl _, fun _ _ => rfl⟩

theorem KS.drewN {w0 : World} {kb L : Nat} {zs : Nat → Int} {p : Nat} {w : World} (h : KS w0 kb L zs p w) (n : Nat) : KS w0 kb L zs p (w.drewN n) :=
  ⟨bdrewN h.be n, h.sz, h.c, h.f⟩

set_option maxHeartbeats 1000000 in
theorem putKey_some (w0 : World) (kb L b o len cap : Nat) (zs : Nat → Int) (w : World) (hlen : len ≤ maxLen) (hL : 4 * len ≤ L) (hL2 : L ≤ 1000000) (hz : ∀ i, 0 ≤ zs i ∧ zs i < 4294967296)
    (hb : b < kb) (hc : ∀ i, i < len → w0.cell? ⟨b, o + i, none⟩ = some (.int .u32 (zs i))) (hs : KS w0 kb L zs 0 w) :
    Calls Yba.prog 8 #[.slice (some ⟨kb, 0, none⟩) L L, .slice (some ⟨b, o, none⟩) len cap] w fun e w' => e = .returned (.tuple #[]) ∧ KS w0 kb L zs len w' := by
  have HS := hide hs
  have HC := hide hc
  have HZ := hide hz
  unfold maxLen at hlen
  clear hs hc hz
  go_enter Yba.func8, Yba.ntmps8
  go_wp2_with fail
  go_loopw [8] (fun i wr => ∃ p : Nat, p ≤ len ∧ i = .int .i64 p ∧ KS w0 kb L zs p wr) (fun i _ => len - (intOf i).toNat)
  case atStart => exact ⟨0, Nat.zero_le _, rfl, HS.out⟩
  case round =>
    obtain ⟨p, hp, rfl, hs⟩ := hrel
    by_cases hlt : p < len
    · have c0 : wr.cell? ⟨b, o + p, none⟩ = some (.int .u32 (zs p)) := by rw [hs.be.cell (by exact hb)]; exact HC.out p hlt
      have z0 := (HZ.out p).1
      have z1 := (HZ.out p).2
      have hput := put32 kb (4 * p) (L - 4 * p) (L - 4 * p) (zs p) z0 z1 wr.drew (by omega) ⟨_, hs.c _ (by omega)⟩ ⟨_, hs.c _ (by omega)⟩ ⟨_, hs.c _ (by omega)⟩ ⟨_, hs.c _ (by omega)⟩ (hs.f _) (hs.f _) (hs.f _) (hs.f _) hs.sz
      have HP := hide hput
      have HS2 := hide hs
      have b1 : 4 * (p : Int) ≤ (L : Int) := by omega
      have b2 : 0 ≤ 4 * (p : Int) := by omega
      have b3 : ¬ (L = 4 * p) := by omega
      have ht : (4 * (p : Int)).toNat = 4 * p := by omega
      have hw4 : IntKind.i64.wrap (4 * (p : Int)) = 4 * (p : Int) := by rw [IntKind.wrap_i64]; omega
      clear hs hput
      go_wp2_with fail
      go_region_with (go_at_call 11; refine HP.out.mono ?_; rintro e w2 ⟨rfl, rfl⟩)
      all_goals
        go_wp2
        exact ⟨⟨p + 1, by omega, by go_num, HS2.out.drew.step (by omega)⟩, by simp [intOf]; omega⟩
    · go_wp2
      go_end0
      have hpl : p = len := by omega
      subst hpl
      exact ⟨rfl, hs⟩

set_option maxHeartbeats 1000000 in
theorem putKey_nil (w0 : World) (kb L cap : Nat) (a : Option Addr) (zs : Nat → Int) (w : World) (hs : KS w0 kb L zs 0 w) :
    Calls Yba.prog 8 #[.slice (some ⟨kb, 0, none⟩) L L, .slice a 0 cap] w fun e w' => e = .returned (.tuple #[]) ∧ KS w0 kb L zs 0 w' := by
  have HS := hide hs
  clear hs
  go_enter Yba.func8, Yba.ntmps8
  go_wp2_with fail
  refine wp_loop_rounds 1 ?_
  rw [rounds_succ]
  go_wp2
  go_end0
  exact ⟨rfl, HS.out⟩

/-- conf, as it came in: empty, or a row of uint32 in a block below kb -/
def Conf (w0 : World) (kb : Nat) (a : Option Addr) (len : Nat) (zs : Nat → Int) : Prop :=
  len = 0 ∨ ∃ b o, a = some ⟨b, o, none⟩ ∧ b < kb ∧ ∀ i, i < len → w0.cell? ⟨b, o + i, none⟩ = some (.int .u32 (zs i))

theorem putKey_any (w0 : World) (kb L len cap : Nat) (a : Option Addr) (zs : Nat → Int) (w : World) (hlen : len ≤ 1024) (hL : 4 * len ≤ L) (hL2 : L ≤ 1000000) (hz : ∀ i, 0 ≤ zs i ∧ zs i < 4294967296)
    (hc : Conf w0 kb a len zs) (hs : KS w0 kb L zs 0 w) :
    Calls Yba.prog 8 #[.slice (some ⟨kb, 0, none⟩) L L, .slice a len cap] w fun e w' => e = .returned (.tuple #[]) ∧ KS w0 kb L zs len w' := by
  rcases hc with rfl | ⟨b, o, rfl, hb, hc⟩
  · exact putKey_nil w0 kb L cap a zs w hs
  · exact putKey_some w0 kb L b o len cap zs w (by unfold maxLen; omega) hL hL2 hz hb hc hs

set_option maxHeartbeats 400000 in
theorem summarizes_no (b : Nat) (w : World) (hc : w.cell? ⟨b, 12, none⟩ = some (.pointer none)) :
    Calls Yba.prog 9 #[.pointer (some ⟨b, 0, none⟩)] w fun e w' => e = .returned (.bool false) ∧ w' = w := by
  go_enter Yba.func9, Yba.ntmps9
  go_wp2
  go_ret
  exact ⟨rfl, rfl⟩

set_option maxHeartbeats 400000 in
theorem putConf_any (w0 : World) (xb kb L len cap : Nat) (a : Option Addr) (zs : Nat → Int) (sm : Int) (w : World) (hlen : len ≤ 1024) (hL : 4 * len ≤ L) (hL2 : L ≤ 1000000) (hz : ∀ i, 0 ≤ zs i ∧ zs i < 4294967296)
    (hc : Conf w0 kb a len zs) (hx : xb < kb) (hp : w0.cell? ⟨xb, 12, none⟩ = some (.pointer none)) (hs : KS w0 kb L zs 0 w) :
    Calls Yba.prog 7 #[.pointer (some ⟨xb, 0, none⟩), .slice (some ⟨kb, 0, none⟩) L L, .slice a len cap, .int .u64 sm] w fun e w' => e = .returned (.tuple #[]) ∧ KS w0 kb L zs len w' := by
  have HK := hide (putKey_any w0 kb L len cap a zs w hlen hL hL2 hz hc hs)
  have HP := hide hp
  clear hs hc hz hp
  go_enter Yba.func7, Yba.ntmps7
  go_wp2_with fail
  refine HK.out.mono ?_
  rintro e w1 ⟨rfl, hs1⟩
  have hsum := hide (summarizes_no xb w1 (by rw [hs1.be.cell (by exact hx)]; exact HP.out))
  have HS1 := hide hs1
  clear hs1
  go_wp2_with (go_at_call 9; refine hsum.out.mono ?_; rintro e w2 ⟨rfl, rfl⟩)
  go_end0
  exact ⟨rfl, HS1.out⟩

theorem made_get (L j : Nat) (h : j < L) : (madeCells #[Value.int .u8 0] L)[j]? = some (.int .u8 0) := by
  simp [madeCells, h, Nat.mod_one]

theorem info5 : (Yba.prog.info? 5).map (fun i => (i.zero, i.size, i.bytes)) = some (some (.int .u8 0), 1, 1) := by kernel_rfl

set_option maxHeartbeats 400000 in
theorem keyFor_any (xb L len cap : Nat) (a : Option Addr) (zs : Nat → Int) (sm : Int) (w : World) (hlen : len ≤ 1024) (hL : 4 * len ≤ L) (hL2 : L ≤ 1000000) (hz : ∀ i, 0 ≤ zs i ∧ zs i < 4294967296)
    (hc : Conf w w.heap.size a len zs) (hx : xb < w.heap.size) (hp : w.cell? ⟨xb, 12, none⟩ = some (.pointer none)) (hw : w.cell? ⟨xb, 24, none⟩ = some (.int .i64 L)) :
    Calls Yba.prog 5 #[.pointer (some ⟨xb, 0, none⟩), .slice a len cap, .int .u64 sm] w fun e w' => e = .returned (.slice (some ⟨w.heap.size, 0, none⟩) L L) ∧ KS w w.heap.size L zs len w' := by
  have hs : KS w w.heap.size L zs 0 (w.alloc (.cells (madeCells #[.int .u8 0] L) 5)) := by
    refine ⟨(Below.refl _ _).alloc (Nat.le_refl _) _, by simp, ?_, ?_⟩
    · intro j hj
      rw [World.cell?_alloc_at _ _ _ _ rfl, made_get L j hj, if_neg (by omega)]
    · intro j
      rw [World.frozen?_alloc_at _ _ _ _ rfl]
  have HK := hide (putConf_any w xb w.heap.size L len cap a zs sm _ hlen hL hL2 hz hc hx hp hs)
  have hmk := fun wx => run_make_row' (P := Yba.prog) 51 5 (.int .u8 0) 1 Yba.underlying51 info5 rfl .i64 .i64 L (by omega) (by omega) wx
  clear hs hc hz hp
  go_enter Yba.func5, Yba.ntmps5
  go_wp2_with fail
  refine HK.out.mono ?_
  rintro e w1 ⟨rfl, hs1⟩
  have HS1 := hide hs1
  clear hs1
  go_wp2
  go_ret
  exact ⟨rfl, HS1.out⟩

set_option maxHeartbeats 1000000 in
theorem decode_any (b L c i : Nat) (x0 x1 x2 x3 : Int) (w : World) (hi : 4 * i + 4 ≤ L) (hL : L ≤ 1000000)
    (c0 : w.cell? ⟨b, 4 * i, none⟩ = some (.int .u8 x0)) (c1 : w.cell? ⟨b, 4 * i + 1, none⟩ = some (.int .u8 x1)) (c2 : w.cell? ⟨b, 4 * i + 2, none⟩ = some (.int .u8 x2)) (c3 : w.cell? ⟨b, 4 * i + 3, none⟩ = some (.int .u8 x3))
    (a0 : 0 ≤ x0) (a1 : x0 < 256) (b0 : 0 ≤ x1) (b1 : x1 < 256) (d0 : 0 ≤ x2) (d1 : x2 < 256) (e0 : 0 ≤ x3) (e1 : x3 < 256) :
    Calls Yba.prog 6 #[.slice (some ⟨b, 0, none⟩) L c, .int .i64 i] w fun e w' => e = .returned (.int .u32 (x0 + 256 * x1 + 65536 * x2 + 16777216 * x3)) ∧ ∃ m, w' = w.drewN m := by
  have l0 : 4 * (i : Int) < (L : Int) := by omega
  have l1 : 4 * (i : Int) + 1 < (L : Int) := by omega
  have l2 : 4 * (i : Int) + 2 < (L : Int) := by omega
  have l3 : 4 * (i : Int) + 3 < (L : Int) := by omega
  have hw0 : IntKind.i64.wrap (4 * (i : Int)) = 4 * (i : Int) := by rw [IntKind.wrap_i64]; omega
  have hw1 : IntKind.i64.wrap (4 * (i : Int) + 1) = 4 * (i : Int) + 1 := by rw [IntKind.wrap_i64]; omega
  have hw2 : IntKind.i64.wrap (4 * (i : Int) + 2) = 4 * (i : Int) + 2 := by rw [IntKind.wrap_i64]; omega
  have hw3 : IntKind.i64.wrap (4 * (i : Int) + 3) = 4 * (i : Int) + 3 := by rw [IntKind.wrap_i64]; omega
  have ht0 : (4 * (i : Int)).toNat = 4 * i := by omega
  have ht1 : (4 * (i : Int) + 1).toNat = 4 * i + 1 := by omega
  have ht2 : (4 * (i : Int) + 2).toNat = 4 * i + 2 := by omega
  have ht3 : (4 * (i : Int) + 3).toNat = 4 * i + 3 := by omega
  go_enter Yba.func6, Yba.ntmps6
  go_wp2_with fail
  go_quiet (fail)
  go_wp2
  rw [u32_or8 (y := x0) (x := x1 * 256) a0 a1 (by omega) (by omega) (by omega), u32_or16 (y := x0 + x1 * 256) (x := x2 * 65536) (by omega) (by omega) (by omega) (by omega) (by omega),
    u32_or24 (y := x0 + x1 * 256 + x2 * 65536) (x := x3 * 16777216) (by omega) (by omega) (by omega) (by omega) (by omega)]
  have ev : x0 + x1 * 256 + x2 * 65536 + x3 * 16777216 = x0 + 256 * x1 + 65536 * x2 + 16777216 * x3 := by omega
  rw [ev]
  go_ret
  exact ⟨rfl, _, rfl⟩

theorem byteOf_bd {zs : Nat → Int} (hz : ∀ i, 0 ≤ zs i ∧ zs i < 4294967296) (j : Nat) : 0 ≤ byteOf zs j ∧ byteOf zs j < 256 := by
  have := hz (j / 4)
  unfold byteOf
  split
  · omega
  · split
    · omega
    · split <;> omega

theorem byteOf_sum {zs : Nat → Int} (hz : ∀ i, 0 ≤ zs i ∧ zs i < 4294967296) (p : Nat) : byteOf zs (4 * p) + 256 * byteOf zs (4 * p + 1) + 65536 * byteOf zs (4 * p + 2) + 16777216 * byteOf zs (4 * p + 3) = zs p := by
  have h := hz p
  have e0 : byteOf zs (4 * p) = zs p % 256 := by unfold byteOf; rw [if_pos (by omega), show 4 * p / 4 = p from by omega]
  have e1 : byteOf zs (4 * p + 1) = zs p / 256 % 256 := by unfold byteOf; rw [if_neg (by omega), if_pos (by omega), show (4 * p + 1) / 4 = p from by omega]
  have e2 : byteOf zs (4 * p + 2) = zs p / 65536 % 256 := by unfold byteOf; rw [if_neg (by omega), if_neg (by omega), if_pos (by omega), show (4 * p + 2) / 4 = p from by omega]
  have e3 : byteOf zs (4 * p + 3) = zs p / 16777216 := by unfold byteOf; rw [if_neg (by omega), if_neg (by omega), if_neg (by omega), show (4 * p + 3) / 4 = p from by omega]
  rw [e0, e1, e2, e3]
  omega

/-- what is read back out of a key is the number that was put there -/
theorem decode_key (w0 : World) (kb L len p : Nat) (zs : Nat → Int) (w : World) (hz : ∀ i, 0 ≤ zs i ∧ zs i < 4294967296) (hL : 4 * len ≤ L) (hL2 : L ≤ 1000000) (hp : p < len) (hs : KS w0 kb L zs len w) :
    Calls Yba.prog 6 #[.slice (some ⟨kb, 0, none⟩) L L, .int .i64 p] w fun e w' => e = .returned (.int .u32 (zs p)) ∧ ∃ m, w' = w.drewN m := by
  have c : ∀ j, j < 4 * len → w.cell? ⟨kb, j, none⟩ = some (.int .u8 (byteOf zs j)) := by
    intro j hj
    rw [hs.c j (by omega), if_pos hj]
  have := decode_any kb L L p _ _ _ _ w (by omega) hL2 (c (4 * p) (by omega)) (c (4 * p + 1) (by omega)) (c (4 * p + 2) (by omega)) (c (4 * p + 3) (by omega))
    (byteOf_bd hz _).1 (byteOf_bd hz _).2 (byteOf_bd hz _).1 (byteOf_bd hz _).2 (byteOf_bd hz _).1 (byteOf_bd hz _).2 (byteOf_bd hz _).1 (byteOf_bd hz _).2
  rw [byteOf_sum hz p] at this
  exact this

end Go.Proofs.Ybulkcoow
