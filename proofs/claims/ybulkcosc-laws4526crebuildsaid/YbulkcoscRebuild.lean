import Derived.Test.YbulkcoscTab
namespace Go.Proofs.Ybulkcosc
open Go.RowKit

/-- the new table while it is filled -/
structure RI (w : World) (N db : Nat) (E : Nat → Option Nat) (H : Nat → Nat) (k : Nat) (wr : World) (F : Nat → Option Nat) (G : Nat → Nat) : Prop where
  bl : Below w.heap.size w wr
  t0 : wr.cell? ⟨w.heap.size + 1 + 1, 0, none⟩ = some (.slice (some ⟨w.heap.size, 0, none⟩) N N)
  t1 : wr.cell? ⟨w.heap.size + 1 + 1, 1, none⟩ = some (pt (w.heap.size + 1))
  tv : Vb wr 40 2 (w.heap.size + 1 + 1)
  dv : Vb wr 38 1 (w.heap.size + 1)
  tab : Tab wr w.heap.size N F G
  good : Good N db E H k F G

theorem RI.start (w : World) (N db : Nat) (E : Nat → Option Nat) (H : Nat → Nat) :
    RI w N db E H 0 (((w.alloc (.cells (mcs slot0 (N * 2)) 51)).alloc (.cells #[.string ⟨#[]⟩] 38)).alloc (.cells #[.slice (some ⟨w.heap.size, 0, none⟩) N N, .pointer (some ⟨w.heap.size + 1, 0, none⟩)] 40)) (fun _ => none) (fun _ => 0) := by
  have hb1 : Below w.heap.size w (w.alloc (.cells (mcs slot0 (N * 2)) 51)) := (Below.refl _ _).alloc (Nat.le_refl _) _
  have hb2 : Below (w.alloc (.cells (mcs slot0 (N * 2)) 51)).heap.size (w.alloc (.cells (mcs slot0 (N * 2)) 51)) (((w.alloc (.cells (mcs slot0 (N * 2)) 51)).alloc (.cells #[.string ⟨#[]⟩] 38)).alloc (.cells #[.slice (some ⟨w.heap.size, 0, none⟩) N N, .pointer (some ⟨w.heap.size + 1, 0, none⟩)] 40)) :=
    ((Below.refl _ _).alloc (Nat.le_refl _) _).alloc (by simp) _
  refine ⟨hb1.trans (hb2.mono hb1.size), by go_simp, by unfold pt; go_simp, ?_, ?_, (Tab.made w N).below hb2, Good.start N db E H⟩
  · have h := Vb.new ((w.alloc (.cells (mcs slot0 (N * 2)) 51)).alloc (.cells #[.string ⟨#[]⟩] 38)) #[.slice (some ⟨w.heap.size, 0, none⟩) N N, .pointer (some ⟨w.heap.size + 1, 0, none⟩)] 40
    simpa using h
  · have h := Vb.new (w.alloc (.cells (mcs slot0 (N * 2)) 51)) #[.string ⟨#[]⟩] 38
    have h2 := h.below ((Below.refl _ _).alloc (Nat.le_refl _) (.cells #[.slice (some ⟨w.heap.size, 0, none⟩) N N, .pointer (some ⟨w.heap.size + 1, 0, none⟩)] 40))
    simpa using h2

def H9 (w : World) (N db size : Nat) (E : Nat → Option Nat) (H : Nat → Nat) (i : Value) (wr : World) : Prop := ∃ (k : Nat) (F : Nat → Option Nat) (G : Nat → Nat), k ≤ size ∧ i = .int .i64 (k : Int) ∧ RI w N db E H k wr F G

/-- how far along the way -/
def dist (N hv jj : Nat) : Nat := (jj + (N - hv % N)) % N
theorem dist_of {N hv d : Nat} (hd : d < N) : dist N hv ((hv + d) % N) = d := by
  unfold dist
  have hr : hv % N < N := Nat.mod_lt _ (by omega)
  have e : (hv + d) % N = (hv % N + d) % N := by rw [Nat.mod_add_mod]
  rw [e]
  by_cases h : hv % N + d < N
  · rw [Nat.mod_eq_of_lt h, show hv % N + d + (N - hv % N) = d + N by omega, Nat.add_mod_right, Nat.mod_eq_of_lt hd]
  · have h2 : (hv % N + d) % N = hv % N + d - N := by rw [Nat.mod_eq_sub_mod (by omega), Nat.mod_eq_of_lt (by omega)]
    rw [h2, show hv % N + d - N + (N - hv % N) = d by omega, Nat.mod_eq_of_lt hd]

def Way (N hv : Nat) (F : Nat → Option Nat) (jj : Nat) : Prop := jj < N ∧ ∃ d, d < N ∧ jj = (hv + d) % N ∧ ∀ d', d' < d → F ((hv + d') % N) ≠ none
theorem Way.next {N hv jj : Nat} {F : Nat → Option Nat} (h : Way N hv F jj) (hf : F jj ≠ none) (hc : cnt F N < N) : Way N hv F ((jj + 1) % N) ∧ N - dist N hv ((jj + 1) % N) < N - dist N hv jj := by
  obtain ⟨hj, d, hd, rfl, hw⟩ := h
  have hall : ∀ d', d' < d + 1 → F ((hv + d') % N) ≠ none := fun d' hd' => by
    by_cases e : d' = d
    · subst e; exact hf
    · exact hw d' (by omega)
  have hd1 : d + 1 < N := by
    rcases Nat.lt_or_ge (d + 1) N with h | h
    · exact h
    · exact (not_full (h := hv) hc fun d' hd' => hall d' (by omega)).elim
  have e : ((hv + d) % N + 1) % N = (hv + (d + 1)) % N := by rw [Nat.mod_add_mod]; rfl
  rw [e, dist_of hd1, dist_of hd]
  exact ⟨⟨Nat.mod_lt _ (by omega), d + 1, hd1, rfl, hall⟩, by omega⟩

theorem RI.put {w wr : World} {N db size k b jj hv : Nat} {E F : Nat → Option Nat} {H G : Nat → Nat} (h : RI w N db E H k wr F G) (ha : Apart db E size) (hk : k < size) (hE : E k = some b) (hb : b ≠ db) (hV : Vb wr 38 1 b) (hh : H k = hv) (hw : Way N hv F jj) (hF : F jj = none) :
    RI w N db E H (k + 1) ((wr.setCell ⟨w.heap.size, jj * 2 + 1, none⟩ (.int .u64 (hv : Int))).setCell ⟨w.heap.size, jj * 2, none⟩ (pv (some b))) (upd F jj (some b)) (upd G jj hv) := by
  obtain ⟨hj, d, hd, hjd, hway⟩ := hw
  have far : ∀ (j i : Nat), ((wr.setCell ⟨w.heap.size, jj * 2 + 1, none⟩ (.int .u64 (hv : Int))).setCell ⟨w.heap.size, jj * 2, none⟩ (pv (some b))).cell? ⟨w.heap.size + 1 + 1, i, none⟩ = wr.cell? ⟨w.heap.size + 1 + 1, i, none⟩ := fun j i => by
    rw [World.cell?_setCell_far _ _ _ _ (by simp; omega), World.cell?_setCell_far _ _ _ _ (by simp; omega)]
  refine ⟨(h.bl.setCell (Nat.le_refl _) _).setCell (Nat.le_refl _) _, by rw [far 0]; exact h.t0, by rw [far 0]; exact h.t1, (h.tv.set _ _).set _ _, (h.dv.set _ _).set _ _, (h.tab.putH hj).putE hj (fun c hc => by cases hc; exact hV.set _ _), ?_⟩
  have := h.good.put (n := size) (d := d) ha hk hE hb hd (by rw [hh, ← hjd]; exact hF) (by rw [hh]; exact hway)
  rw [hh, ← hjd] at this
  exact this

/-- what rebuild answers -/
def Reb (w : World) (n db size xq : Nat) (lvl : Int) (E : Nat → Option Nat) (H : Nat → Nat) (e : Ending) (w' : World) : Prop :=
  ∃ (N : Nat) (wr : World) (F : Nat → Option Nat) (G : Nat → Nat), e = .returned (pt (w.heap.size + 1 + 1)) ∧ Sz n N ∧ RI w N db E H size wr F G ∧ w' = (wr.setCell ⟨xq, 0, none⟩ (pt (w.heap.size + 1 + 1))).setCell ⟨xq, 2, none⟩ (.int .i64 lvl)

set_option maxRecDepth 100000 in
set_option maxHeartbeats 4000000 in
theorem rebuild_old (xq ob sb size db n : Nat) (lvl : Int) (u2 : Value) (E : Nat → Option Nat) (H : Nat → Nat) (w : World) (hn : n ≤ 300) (hsz : size ≤ 64)
    (hx0 : w.cell? ⟨xq, 0, none⟩ = some (pv (some ob))) (hx1 : w.cell? ⟨xq, 1, none⟩ = some (.int .i64 lvl)) (hx2 : w.cell? ⟨xq, 2, none⟩ = some u2) (hxf : ∀ i, w.frozen? ⟨xq, i, none⟩ = false)
    (hob : Vb w 40 2 ob) (ho0 : w.cell? ⟨ob, 0, none⟩ = some (.slice (some ⟨sb, 0, none⟩) size size)) (ho1 : w.cell? ⟨ob, 1, none⟩ = some (pt db)) (hdb : Vb w 38 1 db)
    (hT : Tab w sb size E H) (hA : Apart db E size) (hcl : cl db E size ≤ n) (hH : ∀ i, i < size → H i < 2 ^ 64) :
    Calls Yba.prog 9 #[pt xq, .int .i64 (n : Int)] w fun e w' => Reb w n db size xq lvl E H e w' := by
  have HX := hide (And.intro hx0 (And.intro hx1 (And.intro hx2 hxf)))
  have HO := hide (And.intro hob (And.intro ho0 (And.intro ho1 hdb)))
  have HT := hide hT
  have HA := hide hA
  have HH := hide hH
  clear hx0 hx1 hx2 hxf hob ho0 ho1 hdb hT hA hH
  unfold pt
  go_enter Yba.func9, Yba.ntmps9
  go_wp2_with fail
  refine (slots_any n hn w).mono ?_
  rintro e w1 ⟨⟨N, rfl, hSz⟩, hw1⟩
  obtain rfl := hw1.symm
  have hNle := hSz.le
  have hmk := make35 N hNle.2.1
  have HSZ := hide hSz
  have HCL := hide hcl
  clear hSz hw1 hcl
  go_wp2_with fail
  have hRI := RI.start w N db E H
  generalize (((w.alloc (.cells (mcs slot0 (N * 2)) 51)).alloc (.cells #[.string ⟨#[]⟩] 38)).alloc (.cells #[.slice (some ⟨w.heap.size, 0, none⟩) N N, .pointer (some ⟨w.heap.size + 1, 0, none⟩)] 40)) = W at hRI ⊢
  have HRI := hide hRI
  clear hRI hmk
  refine (c10 xq 0 (some ob) W (bcellOf HRI.out.bl HX.out.1) (fun b hb => by cases hb; exact HO.out.1.below HRI.out.bl)).mono ?_
  rintro e w2 ⟨rfl, rfl⟩
  have q0 := bcellOf HRI.out.bl HO.out.2.1
  unfold pv
  simp only [Option.map_some]
  have t1 := tn1
  go_wp2_with fail
  go_loopw [29, 7, 8, 9, 10, 11] (fun i _ _ _ _ _ wz => H9 w N db size E H i wz) (fun i _ _ _ _ _ _ => size - (intOf i).toNat)
  case atStart => exact ⟨0, _, _, by omega, rfl, HRI.out⟩
  case round =>
    clear HRI q0
    obtain ⟨k, F, G, hk, rfl, hRI⟩ := hrel
    have HRI := hide hRI
    have q0 := bcellOf hRI.bl HO.out.2.1
    have q1 := bcellOf hRI.bl HO.out.2.2.1
    have t0 := hRI.t0
    have e1 := eq1
    have e0 := eq0
    unfold pt at q1
    clear hRI
    by_cases hlt : k < size
    · have hTr := HT.out.below HRI.out.bl
      have HTr := hide hTr
      clear hTr
      have HC6 := hide (c6 sb (k * 2) (E k) wr (HTr.out.e k hlt) (fun b hb => HTr.out.v k b hlt hb))
      cases hE : E k with
      | none =>
        rw [hE] at HC6
        unfold pv at HC6
        go_wp2_with fail
        refine HC6.out.mono ?_
        rintro e w2 ⟨rfl, rfl⟩
        simp only [Option.map_none]
        go_wp2_with fail
        go_roundw
        case rel => exact ⟨k + 1, F, G, by omega, by go_num, HRI.out.bl, HRI.out.t0, HRI.out.t1, HRI.out.tv, HRI.out.dv, HRI.out.tab, HRI.out.good.skip (by rw [hE]; rfl)⟩
        case measure => simp [intOf]; omega
      | some b =>
        rw [hE] at HC6
        unfold pv at HC6
        have hq := eqp (HTr.out.v k b hlt hE) (HO.out.2.2.2.below HRI.out.bl)
        by_cases hbd : b = db
        · subst hbd
          go_wp2_with fail
          refine HC6.out.mono ?_
          rintro e w2 ⟨rfl, rfl⟩
          simp only [Option.map_some]
          go_wp2_with fail
          go_roundw
          case rel => exact ⟨k + 1, F, G, by omega, by go_num, HRI.out.bl, HRI.out.t0, HRI.out.t1, HRI.out.tv, HRI.out.dv, HRI.out.tab, HRI.out.good.skip (by rw [hE]; simp [lv])⟩
          case measure => simp [intOf]; omega
        · have hbb : (b == db) = false := by simp [hbd]
          go_wp2_with fail
          refine HC6.out.mono ?_
          rintro e w2 ⟨rfl, rfl⟩
          simp only [Option.map_some]
          go_wp2_with fail
          have hhk := HH.out k hlt
          refine (c7 sb (k * 2 + 1) (H k : Int) w2 (HTr.out.h k hlt)).mono ?_
          rintro e w3 ⟨rfl, hw3⟩
          obtain rfl := hw3.symm
          obtain ⟨p, hp1, hp2⟩ : ∃ p, N = 2 ^ p ∧ p ≤ 10 := by
            obtain ⟨p, _, h2, h1, _⟩ := HSZ.out
            exact ⟨p, h1, h2⟩
          have HPB := hide (probe_any (w.heap.size + 1 + 1) w.heap.size N p (H k) w2 hp1 hp2 ⟨hNle.1, hNle.2.1⟩ hhk HRI.out.t0)
          have HP := hide (And.intro hp1 hp2)
          have HHK := hide hhk
          unfold pt at HPB
          clear hp1 hp2 hhk hw3
          generalize hhv : H k = hv at HPB HHK ⊢
          have HHV := hide hhv
          clear hhv
          go_wp2_with fail
          refine HPB.out.mono ?_
          rintro e w3 ⟨rfl, hw3⟩
          obtain rfl := hw3.symm
          clear hw3 HC6 hq
          have hj0 : hv % N < N := Nat.mod_lt _ (by omega)
          have hjr : Way N hv F (hv % N) := ⟨hj0, 0, by omega, by simp, fun d' h => by omega⟩
          have HJ := hide hjr
          clear hj0 hjr
          generalize hv % N = j0 at HJ ⊢
          go_wp2_with fail
          go_loop [10] (fun j => ∃ jj : Nat, j = .int .u64 (jj : Int) ∧ Hid (Way N hv F jj)) (fun j => N - dist N hv (intOf j).toNat)
          case atStart => exact ⟨j0, rfl, HJ.out⟩
          case round =>
            clear HJ
            obtain ⟨jj, rfl, hJ⟩ := hrel
            have hjl := hJ.out.1
            have HF6 := hide (c6 w.heap.size (jj * 2) (F jj) w2 (HRI.out.tab.e jj hjl) (fun b hb => HRI.out.tab.v jj b hjl hb))
            have n0 := ne0
            have n1 := ne1
            cases hF : F jj with
            | none =>
              rw [hF] at HF6
              unfold pv at HF6
              go_wp2_with fail
              refine HF6.out.mono ?_
              rintro e w3 ⟨rfl, hw3⟩
              obtain rfl := hw3.symm
              clear hw3
              simp only [Option.map_none]
              go_wp2_with fail
              have hV := HTr.out.v k b hlt hE
              have hTP := HRI.out.tab.putH (x := hv) hjl
              have HRN := hide (HRI.out.put HA.out hlt hE hbd hV HHV.out hJ.out hF)
              have t3 : (w2.setCell ⟨w.heap.size, jj * 2 + 1, none⟩ (.int .u64 (hv : Int))).cell? ⟨w.heap.size + 1 + 1, 0, none⟩ = some (.slice (some ⟨w.heap.size, 0, none⟩) N N) := by
                rw [World.cell?_setCell_far _ _ _ _ (by simp; omega)]; exact HRI.out.t0
              have HC5 := hide (c5 w.heap.size (jj * 2) (some b) _ _ (hTP.e jj hjl) (hTP.fr _) (fun c hc => by cases hc; exact hV.set _ _))
              clear hTP hV
              refine (c4 w.heap.size (jj * 2 + 1) (hv : Int) _ w2 (HRI.out.tab.h jj hjl) (HRI.out.tab.fr _)).mono ?_
              rintro e w3 ⟨rfl, rfl⟩
              generalize w2.setCell ⟨w.heap.size, jj * 2 + 1, none⟩ (.int .u64 (hv : Int)) = W3 at t3 HC5 HRN ⊢
              unfold pv at HC5 HRN
              simp only [Option.map_some] at HC5 HRN
              go_wp2_with fail
              refine HC5.out.mono ?_
              rintro e w4 ⟨rfl, rfl⟩
              go_wp2_with fail
              go_roundw
              case rel => exact ⟨k + 1, _, _, by omega, by go_num, HRN.out⟩
              case measure => simp [intOf]; omega
            | some b2 =>
              have hx := hJ.out.next (by rw [hF]; simp) (by
                rw [HRI.out.good.count]
                have h1 := cl_mono db E k size (by omega)
                have h2 := HCL.out
                omega)
              have hwr : IntKind.u64.wrap ((jj : Int) + 1) = (jj : Int) + 1 := by rw [IntKind.wrap_u64]; omega
              have han : bits .and .u64 ((jj : Int) + 1) ((N : Int) - 1) = (((jj + 1) % N : Nat) : Int) := by
                have h1 := HP.out.1
                have h2 := HP.out.2
                subst h1
                exact and_mask (jj + 1) p (by omega) (by omega)
              have HXX := hide hx
              clear hx
              generalize (jj + 1) % N = j2 at han HXX
              rw [hF] at HF6
              unfold pv at HF6
              go_wp2_with fail
              refine HF6.out.mono ?_
              rintro e w3 ⟨rfl, hw3⟩
              obtain rfl := hw3.symm
              clear hw3
              simp only [Option.map_some]
              go_wp2_with fail
              go_round
              case rel => exact ⟨j2, rfl, HXX.out.1⟩
              case measure =>
                simp only [intOf, Int.toNat_natCast]
                exact HXX.out.2
    · have hks : k = size := by omega
      subst hks
      have HC8 := hide (c8 xq 0 (some (w.heap.size + 1 + 1)) _ wr (bcellOf HRI.out.bl HX.out.1) (by rw [HRI.out.bl.frozen (World.block_lt_of_cell? w _ HX.out.1)]; exact HX.out.2.2.2 0) (fun c hc => by cases hc; exact HRI.out.tv))
      have x1 : (wr.setCell ⟨xq, 0, none⟩ (pt (w.heap.size + 1 + 1))).cell? ⟨xq, 1, none⟩ = some (.int .i64 lvl) := by
        rw [World.cell?_setCell_other _ _ _ _ (by simp)]; exact bcellOf HRI.out.bl HX.out.2.1
      have x2 : (wr.setCell ⟨xq, 0, none⟩ (pt (w.heap.size + 1 + 1))).cell? ⟨xq, 2, none⟩ = some u2 := by
        rw [World.cell?_setCell_other _ _ _ _ (by simp)]; exact bcellOf HRI.out.bl HX.out.2.2.1
      have x3 : (wr.setCell ⟨xq, 0, none⟩ (pt (w.heap.size + 1 + 1))).frozen? ⟨xq, 2, none⟩ = false := by
        rw [World.frozen?_setCell, HRI.out.bl.frozen (World.block_lt_of_cell? w _ HX.out.2.2.1)]; exact HX.out.2.2.2 2
      have HRE : Hid (∀ w', w' = (wr.setCell ⟨xq, 0, none⟩ (pt (w.heap.size + 1 + 1))).setCell ⟨xq, 2, none⟩ (.int .i64 lvl) → Reb w n db k xq lvl E H (.returned (pt (w.heap.size + 1 + 1))) w') := fun w' hw' => ⟨N, wr, F, G, rfl, HSZ.out, HRI.out, hw'⟩
      unfold pv pt at *
      simp only [Option.map_some] at HC8
      go_wp2_with fail
      refine HC8.out.mono ?_
      rintro e w4 ⟨rfl, rfl⟩
      generalize wr.setCell ⟨xq, 0, none⟩ (.pointer (some ⟨w.heap.size + 1 + 1, 0, none⟩)) = W4 at x1 x2 x3 HRE ⊢
      go_wp2
      go_ret
      exact HRE.out _ rfl

set_option maxRecDepth 100000 in
set_option maxHeartbeats 4000000 in
theorem rebuild_nil (xq db n : Nat) (lvl : Int) (u2 : Value) (E : Nat → Option Nat) (H : Nat → Nat) (w : World) (hn : n ≤ 300)
    (hx0 : w.cell? ⟨xq, 0, none⟩ = some (pv none)) (hx1 : w.cell? ⟨xq, 1, none⟩ = some (.int .i64 lvl)) (hx2 : w.cell? ⟨xq, 2, none⟩ = some u2) (hxf : ∀ i, w.frozen? ⟨xq, i, none⟩ = false) :
    Calls Yba.prog 9 #[pt xq, .int .i64 (n : Int)] w fun e w' => Reb w n db 0 xq lvl E H e w' := by
  have HX := hide (And.intro hx0 (And.intro hx1 (And.intro hx2 hxf)))
  clear hx0 hx1 hx2 hxf
  unfold pt
  go_enter Yba.func9, Yba.ntmps9
  go_wp2_with fail
  refine (slots_any n hn w).mono ?_
  rintro e w1 ⟨⟨N, rfl, hSz⟩, hw1⟩
  obtain rfl := hw1.symm
  have hNle := hSz.le
  have hmk := make35 N hNle.2.1
  have HSZ := hide hSz
  clear hSz hw1
  go_wp2_with fail
  have hRI := RI.start w N db E H
  generalize (((w.alloc (.cells (mcs slot0 (N * 2)) 51)).alloc (.cells #[.string ⟨#[]⟩] 38)).alloc (.cells #[.slice (some ⟨w.heap.size, 0, none⟩) N N, .pointer (some ⟨w.heap.size + 1, 0, none⟩)] 40)) = wr at hRI ⊢
  have HRI := hide hRI
  clear hRI hmk
  refine (c10 xq 0 none wr (bcellOf HRI.out.bl HX.out.1) (fun b hb => by cases hb)).mono ?_
  rintro e w2 ⟨rfl, hw2⟩
  obtain rfl := hw2.symm
  clear hw2
  have HC8 := hide (c8 xq 0 (some (w.heap.size + 1 + 1)) _ wr (bcellOf HRI.out.bl HX.out.1) (by rw [HRI.out.bl.frozen (World.block_lt_of_cell? w _ HX.out.1)]; exact HX.out.2.2.2 0) (fun c hc => by cases hc; exact HRI.out.tv))
  have x1 : (wr.setCell ⟨xq, 0, none⟩ (pt (w.heap.size + 1 + 1))).cell? ⟨xq, 1, none⟩ = some (.int .i64 lvl) := by
    rw [World.cell?_setCell_other _ _ _ _ (by simp)]; exact bcellOf HRI.out.bl HX.out.2.1
  have x2 : (wr.setCell ⟨xq, 0, none⟩ (pt (w.heap.size + 1 + 1))).cell? ⟨xq, 2, none⟩ = some u2 := by
    rw [World.cell?_setCell_other _ _ _ _ (by simp)]; exact bcellOf HRI.out.bl HX.out.2.2.1
  have x3 : (wr.setCell ⟨xq, 0, none⟩ (pt (w.heap.size + 1 + 1))).frozen? ⟨xq, 2, none⟩ = false := by
    rw [World.frozen?_setCell, HRI.out.bl.frozen (World.block_lt_of_cell? w _ HX.out.2.2.1)]; exact HX.out.2.2.2 2
  have HRE : Hid (∀ w', w' = (wr.setCell ⟨xq, 0, none⟩ (pt (w.heap.size + 1 + 1))).setCell ⟨xq, 2, none⟩ (.int .i64 lvl) → Reb w n db 0 xq lvl E H (.returned (pt (w.heap.size + 1 + 1))) w') := fun w' hw' => ⟨N, wr, _, _, rfl, HSZ.out, HRI.out, hw'⟩
  have t0 := tn0
  unfold pv pt at *
  simp only [Option.map_some] at HC8
  simp only [Option.map_none]
  go_wp2_with fail
  refine HC8.out.mono ?_
  rintro e w4 ⟨rfl, rfl⟩
  generalize wr.setCell ⟨xq, 0, none⟩ (.pointer (some ⟨w.heap.size + 1 + 1, 0, none⟩)) = W4 at x1 x2 x3 HRE ⊢
  go_wp2
  go_ret
  exact HRE.out _ rfl
end Go.Proofs.Ybulkcosc
