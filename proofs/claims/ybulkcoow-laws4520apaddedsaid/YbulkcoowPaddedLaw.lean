import Derived.Test.YbulkcoowExactLaw
namespace Go.Proofs.Ybulkcoow
open Go.RowKit

set_option maxHeartbeats 400000 in
theorem padded_large (a : Option Addr) (len cap : Nat) (sm ex : Int) (w : World) (hlen : 1024 < len) :
    Calls Yba.prog 4 #[.slice a len cap, .int .u64 sm, .int .u8 ex] w fun e w' => e = .returned (.bool true) ∧ Below w.heap.size w w' := by
  have h : (1024 : Int) < (len : Int) := by omega
  go_enter Yba.func4, Yba.ntmps4
  go_wp2
  go_ret
  exact ⟨rfl, Below.refl _ _⟩

/-- the world behind the explorer's making -/
def xw (w : World) (len k : Nat) : World := w.alloc (.cells (xcells ((len : Int) + k) (4 * ((len : Int) + k))) 57)

theorem xw_size (w : World) (len k : Nat) : (xw w len k).heap.size = w.heap.size + 1 := by simp [xw]
theorem xw_below (w : World) (len k : Nat) : Below w.heap.size w (xw w len k) := (Below.refl _ _).alloc (Nat.le_refl _) _
theorem xw_pred (w : World) (len k : Nat) : (xw w len k).cell? ⟨w.heap.size, 12, none⟩ = some (.pointer none) := by unfold xw; rw [World.cell?_alloc_at _ _ _ _ rfl]; rfl
theorem xw_width (w : World) (len k : Nat) : (xw w len k).cell? ⟨w.heap.size, 24, none⟩ = some (.int .i64 ((4 * (len + k) : Nat) : Int)) := by
  unfold xw
  rw [World.cell?_alloc_at _ _ _ _ rfl, show ((4 * (len + k) : Nat) : Int) = 4 * ((len : Int) + k) from by omega]
  rfl

theorem ks_below {w : World} {len k L : Nat} {zs : Nat → Int} {p : Nat} {wr : World} (h : KS (xw w len k) (w.heap.size + 1) L zs p wr) : Below w.heap.size w wr :=
  (xw_below w len k).trans (h.be.mono (by omega))

/-- the first key, and the second one behind a store into the first -/
theorem key1 (a : Option Addr) (len cap k : Nat) (zs : Nat → Int) (sm : Int) (w : World) (hlen : len ≤ 1024) (hk : k < 16) (hz : ∀ i, 0 ≤ zs i ∧ zs i < 4294967296)
    (hc : len = 0 ∨ ∃ b o, a = some ⟨b, o, none⟩ ∧ b < w.heap.size ∧ ∀ i, i < len → w.cell? ⟨b, o + i, none⟩ = some (.int .u32 (zs i))) :
    Calls Yba.prog 5 #[.pointer (some ⟨w.heap.size, 0, none⟩), .slice a len cap, .int .u64 sm] (xw w len k)
      fun e w' => e = .returned (.slice (some ⟨w.heap.size + 1, 0, none⟩) (4 * (len + k)) (4 * (len + k))) ∧ KS (xw w len k) (w.heap.size + 1) (4 * (len + k)) zs len w' := by
  have h := keyFor_any w.heap.size (4 * (len + k)) len cap a zs sm (xw w len k) hlen (by omega) (by omega) hz (conf_of hc (xw_below w len k) (by rw [xw_size]; omega)) (by rw [xw_size]; omega) (xw_pred w len k) (xw_width w len k)
  rw [xw_size] at h
  exact h

theorem key2 (a : Option Addr) (len cap k : Nat) (zs : Nat → Int) (sm : Int) (w : World) (hlen : len ≤ 1024) (hk : k < 16) (hz : ∀ i, 0 ≤ zs i ∧ zs i < 4294967296)
    (hc : len = 0 ∨ ∃ b o, a = some ⟨b, o, none⟩ ∧ b < w.heap.size ∧ ∀ i, i < len → w.cell? ⟨b, o + i, none⟩ = some (.int .u32 (zs i)))
    (wr : World) (hs : KS (xw w len k) (w.heap.size + 1) (4 * (len + k)) zs len wr) (v : Value) :
    Calls Yba.prog 5 #[.pointer (some ⟨w.heap.size, 0, none⟩), .slice a len cap, .int .u64 sm] (wr.setCell ⟨w.heap.size + 1, 0, none⟩ v)
      fun e w' => e = .returned (.slice (some ⟨wr.heap.size, 0, none⟩) (4 * (len + k)) (4 * (len + k))) ∧ KS (wr.setCell ⟨w.heap.size + 1, 0, none⟩ v) wr.heap.size (4 * (len + k)) zs len w' ∧ Below w.heap.size w w' := by
  have hsz : (wr.setCell ⟨w.heap.size + 1, 0, none⟩ v).heap.size = wr.heap.size := by simp [World.setCell]
  have hb0 : Below (w.heap.size + 1) (xw w len k) (wr.setCell ⟨w.heap.size + 1, 0, none⟩ v) := hs.be.setCell (Nat.le_refl _) v
  have hb : Below w.heap.size w (wr.setCell ⟨w.heap.size + 1, 0, none⟩ v) := (ks_below hs).setCell (by simp) v
  have hsz2 := hs.sz
  have h := keyFor_any w.heap.size (4 * (len + k)) len cap a zs sm (wr.setCell ⟨w.heap.size + 1, 0, none⟩ v) hlen (by omega) (by omega) hz (conf_of hc hb (by rw [hsz]; omega)) (by rw [hsz]; omega)
    (by rw [hb0.cell (Nat.lt_succ_self _)]; exact xw_pred w len k) (by rw [hb0.cell (Nat.lt_succ_self _)]; exact xw_width w len k)
  rw [hsz] at h
  exact h.mono fun e w' ⟨he, hk⟩ => ⟨he, hk, hb.trans (hk.be.mono (by omega))⟩

set_option maxRecDepth 100000 in
set_option maxHeartbeats 2000000 in
theorem padded_small (a : Option Addr) (len cap : Nat) (zs : Nat → Int) (sm ex : Int) (w : World) (hlen : len ≤ 1024) (hz : ∀ i, 0 ≤ zs i ∧ zs i < 4294967296) (he0 : 0 ≤ ex) (he1 : ex ≤ 255)
    (hc : len = 0 ∨ ∃ b o, a = some ⟨b, o, none⟩ ∧ b < w.heap.size ∧ ∀ i, i < len → w.cell? ⟨b, o + i, none⟩ = some (.int .u32 (zs i))) :
    Calls Yba.prog 4 #[.slice a len cap, .int .u64 sm, .int .u8 ex] w fun e w' => e = .returned (.bool true) ∧ Below w.heap.size w w' := by
  obtain ⟨k, hk⟩ : ∃ k : Nat, ex % 16 = (k : Int) := ⟨(ex % 16).toNat, by omega⟩
  have hk16 : k < 16 := by omega
  have HC := hide hc
  have HZ := hide hz
  clear hc hz
  go_enter Yba.func4, Yba.ntmps4
  go_wp2_with (refine Great.wpList_readTo (o := { dst := some 27, op := Op.build 57 #[(1, .tmp 24), (15, .tmp 26)], type := 57, pos := _, after := _, guard := none }) rfl (some 27) rfl (.agg (xcells ((len : Int) + k) (4 * ((len : Int) + k)))) (by kernel_rfl) ?_)
  refine (key1 a len cap k zs sm w hlen hk16 HZ.out HC.out).mono ?_
  rintro e w1 ⟨rfl, hs⟩
  have HS := hide hs
  clear hs
  go_wp2_with fail
  go_loopw [11] (fun i wr => ∃ p : Nat, p ≤ len ∧ i = .int .i64 p ∧ KS (xw w len k) (w.heap.size + 1) (4 * (len + k)) zs len wr) (fun i _ => len - (intOf i).toNat)
  case atStart => exact ⟨0, Nat.zero_le _, rfl, HS.out⟩
  case round =>
    obtain ⟨p, hp, rfl, hs⟩ := hrel
    by_cases hlt : p < len
    · rcases HC.out with h0 | ⟨b, o, ha, hb, hc⟩
      · omega
      · subst ha
        have c0 : wr.cell? ⟨b, o + p, none⟩ = some (.int .u32 (zs p)) := by rw [(ks_below hs).cell (by exact hb)]; exact hc p hlt
        have HS2 := hide hs
        clear hs hc
        go_wp2_with fail
        go_quiet ((go_at_call 6; exact Calls.quiet_of (decode_key _ _ _ len p zs _ HZ.out (by omega) (by omega) hlt (HS2.out.drewN _))))
        go_wp2
        exact ⟨⟨p + 1, by omega, by go_num, HS2.out.drewN _⟩, by simp [intOf]; omega⟩
    · have HS2 := hide hs
      clear hs
      go_wp2_with fail
      go_loop [12] (fun i => ∃ q : Nat, 4 * len ≤ q ∧ q ≤ 4 * (len + k) ∧ i = .int .i64 q) (fun i => 4 * (len + k) - (intOf i).toNat)
      case atStart => exact ⟨4 * len, Nat.le_refl _, by omega, by go_num⟩
      case round =>
        obtain ⟨q, hq1, hq2, rfl⟩ := hrel
        by_cases hlt2 : q < 4 * (len + k)
        · have c0 : wr.cell? ⟨w.heap.size + 1, q, none⟩ = some (.int .u8 0) := by rw [HS2.out.c q hlt2, if_neg (by omega)]
          have l0 : (q : Int) < 4 * ((len : Int) + k) := by omega
          go_wp2
          go_round
          case rel => exact ⟨q + 1, by omega, by omega, by go_num⟩
          case measure => simp [intOf]; omega
        · have l0 : ¬ (q : Int) < 4 * ((len : Int) + k) := by omega
          by_cases hz0 : len + k = 0
          · have l1 : ¬ (0 : Int) < 4 * ((len : Int) + k) := by omega
            go_wp2
            go_ret
            exact ⟨rfl, ks_below HS2.out⟩
          · have l1 : (0 : Int) < 4 * ((len : Int) + k) := by omega
            have l2 : 0 < 4 * (len + k) := by omega
            obtain ⟨x, cx⟩ : ∃ x, wr.cell? ⟨w.heap.size + 1, 0, none⟩ = some (.int .u8 x) := ⟨_, HS2.out.c 0 (by omega)⟩
            have fx := HS2.out.f 0
            go_wp2_with fail
            refine (key2 a len cap k zs sm w hlen hk16 HZ.out HC.out wr HS2.out _).mono ?_
            rintro e w2 ⟨rfl, hs3, hb3⟩
            have HS3 := hide hs3
            have HB3 := hide hb3
            have c2 := hs3.c 0 (by omega)
            clear hs3 hb3 cx fx
            by_cases hl0 : len = 0
            · rw [if_neg (by omega)] at c2
              have l3 : (0 : Int) < 4 * (k : Int) := by omega
              have l4 : 0 < 4 * k := by omega
              go_wp2_with fail
              go_quiet (fail)
              go_wp2
              go_ret
              exact ⟨rfl, bdrewN HB3.out _⟩
            · have g1 : ((len : Int) == 0) = false := by rw [beq_eq_false_iff_ne]; omega
              have g2 : (0 : Int) < (len : Int) := by omega
              rcases HC.out with h0 | ⟨b, o, ha, hb, hc⟩
              · omega
              · subst ha
                have c0 : w2.cell? ⟨b, o, none⟩ = some (.int .u32 (zs 0)) := by rw [HB3.out.cell (by exact hb)]; exact hc 0 (by omega)
                have g3 : 0 < len := by omega
                clear hc c2
                go_wp2_with fail
                go_quiet ((go_at_call 6; exact Calls.quiet_of (decode_key _ _ _ len 0 zs _ HZ.out (by omega) (by omega) g3 (HS3.out.drewN _))))
                go_wp2
                go_ret
                exact ⟨rfl, bdrewN HB3.out _⟩
end Go.Proofs.Ybulkcoow
