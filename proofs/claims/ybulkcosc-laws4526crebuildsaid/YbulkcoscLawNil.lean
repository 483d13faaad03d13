import Derived.Test.YbulkcoscRebuild
import Derived.Deep.QuietTactic
import Derived.BigQuiet
namespace Go.Proofs.Ybulkcosc
open Go.RowKit

/-- behind rebuild -/
structure Fin (w1 : World) (xq N db size : Nat) (lvl : Int) (E : Nat → Option Nat) (H : Nat → Nat) (W : World) (F : Nat → Option Nat) (G : Nat → Nat) : Prop where
  bl : Below xq w1 W
  oth : ∀ b, b < w1.heap.size → b ≠ xq → W.heap[b]? = w1.heap[b]?
  x0 : W.cell? ⟨xq, 0, none⟩ = some (pt (w1.heap.size + 1 + 1))
  x1 : W.cell? ⟨xq, 1, none⟩ = some (.int .i64 lvl)
  x2 : W.cell? ⟨xq, 2, none⟩ = some (.int .i64 lvl)
  t0 : W.cell? ⟨w1.heap.size + 1 + 1, 0, none⟩ = some (.slice (some ⟨w1.heap.size, 0, none⟩) N N)
  t1 : W.cell? ⟨w1.heap.size + 1 + 1, 1, none⟩ = some (pt (w1.heap.size + 1))
  tv : Vb W 40 2 (w1.heap.size + 1 + 1)
  dv : Vb W 38 1 (w1.heap.size + 1)
  tab : Tab W w1.heap.size N F G
  good : Good N db E H size F G

theorem fin_of {w1 wr : World} {xq N db size : Nat} {lvl : Int} {u0 u2 : Value} {E F : Nat → Option Nat} {H G : Nat → Nat} (hx0 : w1.cell? ⟨xq, 0, none⟩ = some u0) (hx1 : w1.cell? ⟨xq, 1, none⟩ = some (.int .i64 lvl)) (hx2 : w1.cell? ⟨xq, 2, none⟩ = some u2) (h : RI w1 N db E H size wr F G) :
    Fin w1 xq N db size lvl E H ((wr.setCell ⟨xq, 0, none⟩ (pt (w1.heap.size + 1 + 1))).setCell ⟨xq, 2, none⟩ (.int .i64 lvl)) F G := by
  have hlt : xq < w1.heap.size := World.block_lt_of_cell? w1 _ hx0
  have k0 := bcellOf h.bl hx0
  have k1 := bcellOf h.bl hx1
  have k2 := bcellOf h.bl hx2
  have far : ∀ (b i : Nat), b ≠ xq → ((wr.setCell ⟨xq, 0, none⟩ (pt (w1.heap.size + 1 + 1))).setCell ⟨xq, 2, none⟩ (.int .i64 lvl)).cell? ⟨b, i, none⟩ = wr.cell? ⟨b, i, none⟩ := fun b i hb => by
    rw [World.cell?_setCell_far _ _ _ _ (by simpa using Ne.symm hb), World.cell?_setCell_far _ _ _ _ (by simpa using Ne.symm hb)]
  refine ⟨((h.bl.mono (Nat.le_of_lt hlt)).setCell (Nat.le_refl _) _).setCell (Nat.le_refl _) _, fun b hb hne => ?_, ?_, ?_, ?_, ?_, ?_, (h.tv.set _ _).set _ _, (h.dv.set _ _).set _ _, (h.tab.other _ (by simp; omega)).other _ (by simp; omega), h.good⟩
  · rw [Below.heap_setCell _ _ _ _ hne, Below.heap_setCell _ _ _ _ hne]; exact h.bl.block b hb
  · rw [World.cell?_setCell_other _ _ _ _ (by simp), World.cell?_setCell_same _ _ _ k0]
  · rw [World.cell?_setCell_other _ _ _ _ (by simp), World.cell?_setCell_other _ _ _ _ (by simp)]; exact k1
  · rw [World.cell?_setCell_same (u := u2) _ _ _ (by rw [World.cell?_setCell_other _ _ _ _ (by simp)]; exact k2)]
  · rw [far _ _ (by omega)]; exact h.t0
  · rw [far _ _ (by omega)]; exact h.t1

theorem Reb.fin {w1 w' : World} {n xq db size : Nat} {lvl : Int} {u0 u2 : Value} {E : Nat → Option Nat} {H : Nat → Nat} {e : Ending} (h : Reb w1 n db size xq lvl E H e w') (hx0 : w1.cell? ⟨xq, 0, none⟩ = some u0) (hx1 : w1.cell? ⟨xq, 1, none⟩ = some (.int .i64 lvl)) (hx2 : w1.cell? ⟨xq, 2, none⟩ = some u2) :
    e = .returned (pt (w1.heap.size + 1 + 1)) ∧ ∃ N F G, Sz n N ∧ Fin w1 xq N db size lvl E H w' F G := by
  obtain ⟨N, wr, F, G, rfl, hs, hr, rfl⟩ := h
  exact ⟨rfl, N, F, G, hs, fin_of hx0 hx1 hx2 hr⟩

theorem Fin.below {w1 : World} {xq N db size : Nat} {lvl : Int} {E : Nat → Option Nat} {H : Nat → Nat} {W W2 : World} {F : Nat → Option Nat} {G : Nat → Nat} (h : Fin w1 xq N db size lvl E H W F G) (hs : w1.heap.size ≤ W.heap.size) (hq : xq ≤ W.heap.size) (hb : Below W.heap.size W W2) : Fin w1 xq N db size lvl E H W2 F G :=
  ⟨h.bl.trans (hb.mono hq), fun b h1 h2 => (hb.block b (by omega)).trans (h.oth b h1 h2), bcellOf hb h.x0, bcellOf hb h.x1, bcellOf hb h.x2, bcellOf hb h.t0, bcellOf hb h.t1, h.tv.below hb, h.dv.below hb, h.tab.below hb, h.good⟩
theorem below_drewN (W : World) (n : Nat) : Below W.heap.size W (W.drewN n) := ⟨rfl, rfl, rfl, Nat.le_refl _, fun _ _ => rfl⟩

/-- the number that rebuild is asked for -/
def NnR (lo : Nat) (W : World) (v : Value) (wx : World) : Prop := ∃ nn : Nat, lo ≤ nn ∧ nn ≤ 300 ∧ v = .int .i64 (nn : Int) ∧ wx = W

set_option maxRecDepth 100000 in
set_option maxHeartbeats 4000000 in
theorem law_nil (pa : Option Addr) (ln ac : Nat) (sel nsel used : Int) (w : World) (hs : 0 ≤ sel ∧ sel < 256) (hsel : sel % 4 = 3) (hns : 0 ≤ nsel ∧ nsel < 65536) :
    Calls Yba.prog 3 #[.slice pa ln ac, .int .u8 sel, .int .u16 nsel, .int .i64 used] w fun e w' => e = .returned (.bool true) ∧ Below w.heap.size w w' := by
  have hm0 : 0 ≤ nsel % 300 := by omega
  have hm1 : nsel % 300 < 300 := by omega
  go_enter Yba.func3, Yba.ntmps3
  go_upto_if 175 with fail
  generalize wrap64 (16 * 2 ^ (sel % 3).toNat) = size
  go_cut [20] from 175 to 176 (fun v wx => NnR 0 (w.alloc (.cells #[.pointer none, .int .i64 0, .int .i64 used] 32)) v wx)
  case first =>
    go_wp2_with fail
    all_goals go_meet
    · exact ⟨0, by omega, by omega, rfl, rfl⟩
    · exact ⟨(nsel % 300 - 20).toNat, by omega, by omega, by rw [Int.toNat_of_nonneg (by omega)], rfl⟩
  case rest =>
    obtain ⟨nn, _, hnn, rfl, rfl⟩ := hcut
    go_wp2_with fail
    have HRB := hide (rebuild_nil w.heap.size 0 nn 0 (.int .i64 used) (fun _ => none) (fun _ => 0) (w.alloc (.cells #[.pointer none, .int .i64 0, .int .i64 used] 32)) hnn (by unfold pv; go_simp) (by go_simp) (by go_simp) (fun i => World.frozen?_alloc_at _ _ _ _ rfl))
    unfold pt at HRB
    refine HRB.out.mono ?_
    intro e W hR
    obtain ⟨rfl, N, F, G, hSz, hF⟩ := hR.fin (u0 := .pointer none) (u2 := .int .i64 used) (by go_simp) (by go_simp) (by go_simp)
    have hsz1 : (w.alloc (.cells #[.pointer none, .int .i64 0, .int .i64 used] 32)).heap.size = w.heap.size + 1 := by simp
    have hb0 : Below w.heap.size w (w.alloc (.cells #[.pointer none, .int .i64 0, .int .i64 used] 32)) := (Below.refl _ _).alloc (Nat.le_refl _) _
    have HB := hide hb0
    have x0 := hF.x0
    have x1 := hF.x1
    have x2 := hF.x2
    have t0 := hF.t0
    have t1 := hF.t1
    have htt := tnp hF.tv hF.tv
    have HC10 := hide (c10 w.heap.size 0 (some (w.heap.size + 1 + 1 + 1)) W (by rw [← hsz1]; exact hF.x0) (fun b hb => by cases hb; have := hF.tv; rwa [hsz1] at this))
    have HF := hide hF
    have HSZ := hide hSz
    clear hF hSz hR HRB hb0
    rw [hsz1] at x0 t0 t1 htt
    rw [hsz1]
    have te1 := te1
    unfold pv at HC10
    unfold pt at *
    simp only [Option.map_some] at HC10
    go_wp2_with fail
    refine HC10.out.mono ?_
    rintro e w2 ⟨rfl, hw2⟩
    obtain rfl := hw2.symm
    clear hw2
    have hNle := HSZ.out.le
    go_wp2_with fail
    go_loop [22] (fun s => ∃ k : Nat, s = .int .i64 (k : Int) ∧ Dbl nn k) (fun s => 1024 - (intOf s).toNat)
    case atStart => exact ⟨16, rfl, Dbl.start nn⟩
    case round =>
      obtain ⟨k, rfl, hd⟩ := hrel
      have hle := hd.le
      by_cases hlt : k < 2 * nn
      · have HN := hide (hd.next hnn hlt)
        clear hd
        go_wp2_with fail
        go_round
        case rel => exact ⟨k * 2, by go_num, HN.out⟩
        case measure => simp [intOf]; omega
      · have hkN : k = N := (hd.done hlt).uniq HSZ.out
        clear hd
        subst hkN
        have e1 := eq1
        have n0 := tn0
        go_wp2_with fail
        go_quiet (fail)
        go_wp2_with fail
        have hFN := HF.out.below (by have := HF.out.tab.lt; omega) (by have := HF.out.tab.lt; omega) (below_drewN W nq)
        generalize W.drewN nq = W2 at hFN ⊢
        have t0 := hFN.t0
        rw [hsz1] at t0
        have HFN := hide hFN
        clear hFN HF x0 x1 x2 t1 e1 n0 te1 htt HC10
        have m0 := ne0
        have m1 := ne1
        go_loop [240, 23, 24] (fun i c _ => ∃ j : Nat, j ≤ k ∧ i = .int .i64 (j : Int) ∧ c = .int .i64 (cnt F j : Int)) (fun i _ _ => k - (intOf i).toNat)
        case atStart => exact ⟨0, by omega, rfl, rfl⟩
        case round =>
          obtain ⟨j, hj, rfl, rfl⟩ := hrel
          have hcj := cnt_le F j
          by_cases hlt2 : j < k
          · have HC6 := hide (c6 (w.heap.size + 1) (j * 2) (F j) W2 (by rw [← hsz1]; exact HFN.out.tab.e j hlt2) (fun b hb => HFN.out.tab.v j b hlt2 hb))
            have hc1 : cnt F (j + 1) = cnt F j + if (F j).isSome then 1 else 0 := rfl
            cases hFj : F j with
            | none =>
              rw [hFj] at HC6 hc1
              have HC1 := hide hc1
              clear hc1
              unfold pv at HC6
              go_wp2_with fail
              refine HC6.out.mono ?_
              rintro e w3 ⟨rfl, hw3⟩
              obtain rfl := hw3.symm
              clear hw3
              simp only [Option.map_none]
              go_wp2_with fail
              go_round
              case rel => exact ⟨j + 1, by omega, by go_num, by rw [HC1.out]; simp⟩
              case measure => simp [intOf]; omega
            | some b =>
              rw [hFj] at HC6 hc1
              have HC1 := hide hc1
              clear hc1
              unfold pv at HC6
              go_wp2_with fail
              refine HC6.out.mono ?_
              rintro e w3 ⟨rfl, hw3⟩
              obtain rfl := hw3.symm
              clear hw3
              simp only [Option.map_some]
              go_wp2_with fail
              go_round
              case rel => exact ⟨j + 1, by omega, by go_num, by rw [HC1.out]; simp⟩
              case measure => simp [intOf]; omega
          · have hjk : j = k := by omega
            subst hjk
            have hc0 : cnt F j = 0 := HFN.out.good.count
            go_wp2_with fail
            go_loop [26, 27, 28, 29, 30, 31, 32] (fun i _ _ _ _ _ _ => i = .int .i64 0) (fun _ _ _ _ _ _ _ => 0)
            case atStart => rfl
            case round =>
              subst hrel
              have n0 := tn0
              go_wp2
              go_ret
              exact ⟨rfl, HB.out.trans HFN.out.bl⟩
end Go.Proofs.Ybulkcosc
