import Derived.Test.YbulkcomeBfInv
import Derived.Deep.RegionHeldLaw
import Derived.Deep.DeepCutAuto
import Derived.Deep.LoopGhost
namespace Go.Proofs.Ybulkcome
open Go.RowKit
attribute [local go_sem] bf_store_float

set_option maxRecDepth 100000 in
set_option maxHeartbeats 4000000 in
theorem files_any (sel : Int) (ks : Nat) (hk4 : ks < 4) (hks : sel % 4 = (ks : Int)) (hs0 : 0 ≤ sel) (hs1 : sel < 256) (pa : Option Addr) (len cap : Nat) (hm hS : Bool) (dm ds : Dat) (pm ps : Int) (w : World) (hlen : len ≤ 300)
    (hpre : len = 0 ∨ ∃ b o, pa = some ⟨b, o, none⟩ ∧ PreAt w b o len) :
    Calls Yba.prog 3 #[.int .u8 sel, .slice pa len cap, .bool hm, .agg (dval dm pm), .bool hS, .agg (dval ds ps)] w fun e w' => e = .returned (.bool true) ∧ Below w.heap.size w w' := by
  obtain ⟨i30, hi30, hz⟩ := Option.map_eq_some_iff.1 info30
  simp only [Prod.mk.injEq] at hz
  obtain ⟨hz1, hz2, hz3⟩ := hz
  have HPRE := hide hpre
  clear hpre
  go_enter Yba.func3, Yba.ntmps3
  go_wp2_with fail
  simp only [hks]
  have HKS := hide hks
  clear hks
  go_region
  go_wp2_with fail
  go_loopw [17, 18, 19] (fun i j h wr => Head w len ks dm ds pm ps i wr) (fun i _ _ _ => len - (intOf i).toNat)
  case atStart =>
    exact ⟨0, Nat.zero_le _, rfl, Inv.start _ _ _ _ _ _⟩
  case round =>
    obtain ⟨k, hk, rfl, hinv⟩ := hrel
    by_cases hlt : k < len
    · obtain ⟨ρ, V, E, n, g, hF, hnk⟩ := hinv
      obtain ⟨b, o, rfl, hat⟩ : ∃ b o, pa = some ⟨b, o, none⟩ ∧ PreAt w b o len := by
        rcases HPRE.out with h | h
        · omega
        · exact h
      obtain ⟨d, hp, hp0, hp1, hcs⟩ := hat k hlt
      have c0 : wr.cell? ⟨b, o + k * 11, none⟩ = some (.float .f64 d.mh) := bcellOf hF.bl (hcs 0 (by decide))
      have c1 : wr.cell? ⟨b, o + k * 11 + 1, none⟩ = some (.float .f64 d.ml) := bcellOf hF.bl (hcs 1 (by decide))
      have c2 : wr.cell? ⟨b, o + k * 11 + 2, none⟩ = some (.float .f64 d.sh) := bcellOf hF.bl (hcs 2 (by decide))
      have c3 : wr.cell? ⟨b, o + k * 11 + 3, none⟩ = some (.float .f64 d.sl) := bcellOf hF.bl (hcs 3 (by decide))
      have c4 : wr.cell? ⟨b, o + k * 11 + 4, none⟩ = some (.float .f64 d.at_) := bcellOf hF.bl (hcs 4 (by decide))
      have c5 : wr.cell? ⟨b, o + k * 11 + 5, none⟩ = some (.float .f64 d.kh) := bcellOf hF.bl (hcs 5 (by decide))
      have c6 : wr.cell? ⟨b, o + k * 11 + 6, none⟩ = some (.float .f64 d.kl) := bcellOf hF.bl (hcs 6 (by decide))
      have c7 : wr.cell? ⟨b, o + k * 11 + 7, none⟩ = some (.float .f64 d.ks) := bcellOf hF.bl (hcs 7 (by decide))
      have c8 : wr.cell? ⟨b, o + k * 11 + 8, none⟩ = some (.bool d.fol) := bcellOf hF.bl (hcs 8 (by decide))
      have c9 : wr.cell? ⟨b, o + k * 11 + 9, none⟩ = some (.int .i64 d.seq) := bcellOf hF.bl (hcs 9 (by decide))
      have c10 : wr.cell? ⟨b, o + k * 11 + 10, none⟩ = some (.int .u8 hp) := bcellOf hF.bl (hcs 10 (by decide))
      have HF := hide hF
      have HNK := hide hnk
      clear hF hnk hcs hat
      go_wp2_with fail
      refine (mk_any d hp wr).mono ?_
      rintro e w2 ⟨rfl, hw2⟩
      have hbw : Below wr.heap.size wr w2 := by rw [hw2]; exact ((Below.refl _ _).alloc (Nat.le_refl _) _).alloc (by simp) _
      have hjd : JobD w2 (wr.heap.size + 1) d := by rw [hw2]; have := jobD_new (wr.alloc (.cells (dval d hp) 25)) d; simpa using this
      have hsz : w2.heap.size = wr.heap.size + 1 + 1 := by rw [hw2]; simp
      have e10 : w2.cell? ⟨b, o + k * 11 + 10, none⟩ = some (.int .u8 hp) := bcellOf hbw c10
      obtain ⟨ρ', hρ', hr30, hF2⟩ := HF.out.newJob hbw (jb := wr.heap.size + 1) (by omega)
      have hnew : ∀ i, i < 3 → ∀ j, j < n i → g i j ≠ wr.heap.size + 1 := fun i hi j hj => by have := (HF.out.ls.ej i hi j hj).2.lt; omega
      obtain ⟨hh, hh3, hhe⟩ : ∃ hh : Nat, hh < 3 ∧ hp % 3 = (hh : Int) := ⟨(hp % 3).toNat, by omega, by omega⟩
      have x1 := hF2.ls.hc hh hh3
      have x2 := hF2.ls.hp.hc hh hh3
      have x3 := hF2.ls.hp.fo (1 + hh)
      have HF2 := hide (And.intro hF2 (And.intro hjd (And.intro hr30 hnew)))
      have HBW := hide hbw
      have hob : (w.heap.size + 1 + 1) < w2.heap.size := World.block_lt_of_cell? w2 _ x2
      have hhb : (w.heap.size + 1 + 1 + 1) < w2.heap.size := World.block_lt_of_cell? w2 _ x1
      have hov : some (w.heap.size + 1 + 1) ≠ (V hh).ownBlock := by
        intro e'
        have := hF2.ls.hp.hr hh hh3 _ e'.symm
        rw [hF2.ls.hp.rob] at this
        omega
      have hhv : some (w.heap.size + 1 + 1 + 1) ≠ (V hh).ownBlock := by
        intro e'
        have := hF2.ls.hp.hr hh hh3 _ e'.symm
        rw [hF2.ls.rh] at this
        omega
      have hbA : Below w2.heap.size w2 ((w2.alloc (.cells #[ptr (wr.heap.size + 1)] 30)).drew) := ((Below.refl _ _).alloc (Nat.le_refl _) _).drew
      have HBA := hide hbA
      have HOA := hide (own_below (hF2.ls.hp.ho hh hh3) hbA)
      have HNEW : Hid (∀ (j : Nat) (u : Value), [ptr (wr.heap.size + 1)][j]? = some u → ((w2.alloc (.cells #[ptr (wr.heap.size + 1)] 30)).drew).cell? ((⟨w2.heap.size, 0, none⟩ : Addr).add j) = some u) :=
        World.news_of_block (cs := #[ptr (wr.heap.size + 1)]) (t := 30) (fr := (0, 0)) (MapKept.heap_alloc w2 _).1
      have hn300 := HNK.out hh hh3
      have hw2s : w.heap.size ≤ w2.heap.size := hF2.bl.size
      clear c0 c1 c2 c3 c4 c5 c6 c7 c8 c9 c10 hbw hjd hr30 hF2 hnew hw2 hbA
      go_wp2_with fail
      have i0 : (0 : Int) ≤ (hh : Int) := by omega
      have i1 : (hh : Int) < 3 := by omega
      have z1 : (w2.alloc (.cells #[.pointer (some ⟨wr.heap.size + 1, 0, none⟩)] 30)).cell? ⟨w.heap.size + 1 + 1 + 1, hh, none⟩ = some (.pointer (some ⟨w.heap.size + 1 + 1, 1 + hh, none⟩)) := bcellOf HBA.out x1
      have z2 : (w2.alloc (.cells #[.pointer (some ⟨wr.heap.size + 1, 0, none⟩)] 30)).cell? ⟨w.heap.size + 1 + 1, 1 + hh, none⟩ = some (V hh) := bcellOf HBA.out x2
      have z3 : (w2.alloc (.cells #[.pointer (some ⟨wr.heap.size + 1, 0, none⟩)] 30)).frozen? ⟨w.heap.size + 1 + 1, 1 + hh, none⟩ = false := (HBA.out.frozen (p := ⟨w.heap.size + 1 + 1, 1 + hh, none⟩) hob).trans x3
      go_cut [] from 47 to 84 (fun wx => Ahead w ρ' w2.heap.size (wr.heap.size + 1) hh ks E n g dm ds pm ps wx)
      case first =>
        go_region_law ((refine step_append_lies _ (by rfl) (.tmp 72) (.tmp 74) 29 (by rfl) w.heap.size 30 i30 (.pointer none) 1 8 Yba.underlying29 hi30 hz1 hz2 hz3 rfl (by decide) (V hh) (n hh) (ptrs (n hh) (g hh)) (by simp [Act.eval]) HOA.out ⟨w2.heap.size, 0, none⟩ 1 1 [ptr (wr.heap.size + 1)] (by simp [Act.eval]) rfl HNEW.out (by simp [ptr, Value.oneCell']) (by decide) (by unfold maxLen; omega) (by omega) (by simp; omega) (w2.heap.size + 1) (by simp) ?_; intro q cap' w1 hown hgrow hat hltq
                        have y1 : w1.cell? ⟨w.heap.size + 1 + 1 + 1, hh, none⟩ = some (.pointer (some ⟨w.heap.size + 1 + 1, 1 + hh, none⟩)) := by rw [hgrow.cell_far _ (by simp; omega) hhv]; exact z1
                        have y2 : w1.cell? ⟨w.heap.size + 1 + 1, 1 + hh, none⟩ = some (V hh) := by rw [hgrow.cell_far _ (by simp; omega) hov]; exact z2
                        have y3 : w1.frozen? ⟨w.heap.size + 1 + 1, 1 + hh, none⟩ = false := by rw [hgrow.frozen_far _ (by simp; omega) hov]; exact z3
                        have HOWN := hide hown
                        have HGROW := hide hgrow
                        have HAT := hide hat
                        clear hown hgrow hat))
        all_goals
          go_wp2_with fail
          go_meet
          obtain ⟨hF2, hjd, hr30, _⟩ := HF2.out
          obtain ⟨ρ2, hρ2, hF3, hkj⟩ := hF2.heaped hh3 hr30 hjd.isJob HBA.out HOWN.out HGROW.out HAT.out (by omega)
          exact ⟨ρ2, _, hρ2, hF3, (hkj _ _ hr30 hjd).z⟩
      case rest =>
        obtain ⟨ρ2, V2, hρ2, hF3, hz⟩ := hcut
        have x4 := hF3.ls.ec hh hh3
        have x5 := hF3.ls.ef hh
        have heb : (w.heap.size + 1 + 1 + 1 + 1) < wc.heap.size := World.block_lt_of_cell? wc _ x4
        have hev : some (w.heap.size + 1 + 1 + 1 + 1) ≠ (E hh).ownBlock := by
          intro e'
          have := hF3.ls.er hh hh3 _ e'.symm
          rw [hF3.ls.re] at this
          omega
        have hbC : Below wc.heap.size wc (wc.alloc (.cells #[ptr (wr.heap.size + 1)] 30)) := (Below.refl _ _).alloc (Nat.le_refl _) _
        have HBC := hide hbC
        have HOC := hide (own_below (hF3.ls.eo hh hh3) hbC)
        have HNEC : Hid (∀ (j : Nat) (u : Value), [ptr (wr.heap.size + 1)][j]? = some u → (wc.alloc (.cells #[ptr (wr.heap.size + 1)] 30)).cell? ((⟨wc.heap.size, 0, none⟩ : Addr).add j) = some u) :=
          World.news_of_block (cs := #[ptr (wr.heap.size + 1)]) (t := 30) (fr := (0, 0)) (MapKept.heap_alloc wc _).1
        have hwcs : w.heap.size ≤ wc.heap.size := hF3.bl.size
        have HF3 := hide (And.intro hρ2 (And.intro hF3 hz))
        clear hρ2 hF3 hz x1 x2 x3 z1 z2 z3 HOA HNEW hbC e10
        have z1 : (wc.alloc (.cells #[.pointer (some ⟨wr.heap.size + 1, 0, none⟩)] 30)).cell? ⟨w.heap.size + 1 + 1 + 1 + 1, hh, none⟩ = some (E hh) := bcellOf HBC.out x4
        have z3 : (wc.alloc (.cells #[.pointer (some ⟨wr.heap.size + 1, 0, none⟩)] 30)).frozen? ⟨w.heap.size + 1 + 1 + 1 + 1, hh, none⟩ = false := (HBC.out.frozen (p := ⟨w.heap.size + 1 + 1 + 1 + 1, hh, none⟩) heb).trans x5
        go_wp2_with (at_builtin; refine wpList_append_lies _ rfl (.tmp 80) (.tmp 82) 28 rfl w.heap.size 30 i30 (.pointer none) 1 8 Yba.underlying28 hi30 hz1 hz2 hz3 rfl (by decide) (E hh) (n hh) (ptrs (n hh) (g hh)) rfl HOC.out ⟨wc.heap.size, 0, none⟩ 1 1 [ptr (wr.heap.size + 1)] rfl rfl HNEC.out (by simp [ptr, Value.oneCell']) (by decide) (by unfold maxLen; omega) (by omega) (by simp; omega) _ rfl ?_; intro q cap' w1 hown hgrow hat hltq
                     have y2 : w1.cell? ⟨w.heap.size + 1 + 1 + 1 + 1, hh, none⟩ = some (E hh) := by rw [hgrow.cell_far _ (by simp; omega) hev]; exact z1
                     have y3 : w1.frozen? ⟨w.heap.size + 1 + 1 + 1 + 1, hh, none⟩ = false := by rw [hgrow.frozen_far _ (by simp; omega) hev]; exact z3
                     have HOWN := hide hown
                     have HGROW := hide hgrow
                     have HAT := hide hat
                     clear hown hgrow hat)
        go_roundw
        case rel =>
          refine ⟨k + 1, by omega, by go_num, ?_⟩
          obtain ⟨hF2, hjd, hr30, hnew⟩ := HF2.out
          obtain ⟨hρ2, hF3, hz⟩ := HF3.out
          obtain ⟨ρ3, hρ3, hF4, _⟩ := hF3.exped hh3 ((hρ2 _ (by omega)).trans hr30) hz (hnew hh hh3) HBC.out HOWN.out HGROW.out HAT.out (by simp)
          refine ⟨ρ3, V2, _, _, _, hF4, fun h h3 => ?_⟩
          have := HNK.out h h3
          unfold updV
          split
          · rename_i e'; rw [← e']; omega
          · omega
        case measure =>
          simp [intOf]
          omega
    · have hkn : k = len := by omega
      subst hkn
      have HI := hide hinv
      obtain ⟨ρ, V, E, n, g, hF, hnk⟩ := hinv
      have s0 := hF.c6
      have s1 := hF.ls.hp.fo 6
      have hob : (w.heap.size + 1 + 1) < wr.heap.size := hF.ls.hp.lt
      clear hF hnk
      go_upto_if 91 with (refine Great.wpList_readTo (o := { dst := some 85, op := Op.build 43 #[], type := 43, pos := _, after := _, guard := none }) rfl (some 85) rfl (.agg (jcells ⟨0, 0, 0, 0, 0, 0, 0, 0, false, 0⟩)) (by kernel_rfl) ?_)
      have hmid : Mid w k ks dm ds pm ps wr.heap.size none none ((wr.setCell ⟨w.heap.size + 1 + 1, 6, none⟩ (.pointer (some ⟨wr.heap.size, 0, none⟩))).alloc (.cells (jcells ⟨0, 0, 0, 0, 0, 0, 0, 0, false, 0⟩) 43)) := by
        obtain ⟨ρ, V, E, n, g, hF, hnk⟩ := HI.out
        exact ⟨ρ, V, E, n, n, g, g, ((hF.place _).2.2).below ((Below.refl _ _).alloc (Nat.le_refl _) _), Tl.start n g, hnk, trivial, trivial, trivial⟩
      generalize ((wr.setCell ⟨w.heap.size + 1 + 1, 6, none⟩ (.pointer (some ⟨wr.heap.size, 0, none⟩))).alloc (.cells (jcells ⟨0, 0, 0, 0, 0, 0, 0, 0, false, 0⟩) 43)) = wq at hmid ⊢
      generalize wr.heap.size = bb at hmid ⊢
      have HMID := hide hmid
      clear hmid s0 s1 hob HI
      go_cut [21, 23] from 91 (fun v _ wx => MidM w k ks dm ds pm ps bb hm v wx)
      case first =>
        cases hm
        · go_wp2_with fail
          go_meet
          exact ⟨0, rfl, HMID.out⟩
        · obtain ⟨ρ, V, E, n, m, g, e, hF, ht, hnl, hro, hrs, hap⟩ := HMID.out
          have b0 : wq.cell? ⟨w.heap.size, 0, none⟩ = some (.float .f64 dm.mh) := box_cell hF.bm 0
          have b1 : wq.cell? ⟨w.heap.size, 1, none⟩ = some (.float .f64 dm.ml) := box_cell hF.bm 1
          have b2 : wq.cell? ⟨w.heap.size, 2, none⟩ = some (.float .f64 dm.sh) := box_cell hF.bm 2
          have b3 : wq.cell? ⟨w.heap.size, 3, none⟩ = some (.float .f64 dm.sl) := box_cell hF.bm 3
          have b4 : wq.cell? ⟨w.heap.size, 4, none⟩ = some (.float .f64 dm.at_) := box_cell hF.bm 4
          have b5 : wq.cell? ⟨w.heap.size, 5, none⟩ = some (.float .f64 dm.kh) := box_cell hF.bm 5
          have b6 : wq.cell? ⟨w.heap.size, 6, none⟩ = some (.float .f64 dm.kl) := box_cell hF.bm 6
          have b7 : wq.cell? ⟨w.heap.size, 7, none⟩ = some (.float .f64 dm.ks) := box_cell hF.bm 7
          have b8 : wq.cell? ⟨w.heap.size, 8, none⟩ = some (.bool dm.fol) := box_cell hF.bm 8
          have b9 : wq.cell? ⟨w.heap.size, 9, none⟩ = some (.int .i64 dm.seq) := box_cell hF.bm 9
          have b10 : wq.cell? ⟨w.heap.size, 10, none⟩ = some (.int .u8 pm) := box_cell hF.bm 10
          have HF := hide (And.intro hF (And.intro ht (And.intro hnl (And.intro hro (And.intro hrs hap)))))
          clear hF ht hnl hro hrs hap HMID
          go_wp2_with fail
          refine (mk_any dm pm wq).mono ?_
          rintro e1 w2 ⟨rfl, hw2⟩
          obtain ⟨ρ', hρ', hr30, hF2, hjd, hnew, hbw, hsz⟩ := mk_step HF.out.1 hw2
          clear b0 b1 b2 b3 b4 b5 b6 b7 b8 b9 b10
          have b0 : w2.cell? ⟨w.heap.size, 0, none⟩ = some (.float .f64 dm.mh) := box_cell hF2.bm 0
          have b1 : w2.cell? ⟨w.heap.size, 1, none⟩ = some (.float .f64 dm.ml) := box_cell hF2.bm 1
          have b2 : w2.cell? ⟨w.heap.size, 2, none⟩ = some (.float .f64 dm.sh) := box_cell hF2.bm 2
          have b3 : w2.cell? ⟨w.heap.size, 3, none⟩ = some (.float .f64 dm.sl) := box_cell hF2.bm 3
          have b4 : w2.cell? ⟨w.heap.size, 4, none⟩ = some (.float .f64 dm.at_) := box_cell hF2.bm 4
          have b5 : w2.cell? ⟨w.heap.size, 5, none⟩ = some (.float .f64 dm.kh) := box_cell hF2.bm 5
          have b6 : w2.cell? ⟨w.heap.size, 6, none⟩ = some (.float .f64 dm.kl) := box_cell hF2.bm 6
          have b7 : w2.cell? ⟨w.heap.size, 7, none⟩ = some (.float .f64 dm.ks) := box_cell hF2.bm 7
          have b8 : w2.cell? ⟨w.heap.size, 8, none⟩ = some (.bool dm.fol) := box_cell hF2.bm 8
          have b9 : w2.cell? ⟨w.heap.size, 9, none⟩ = some (.int .i64 dm.seq) := box_cell hF2.bm 9
          have b10 : w2.cell? ⟨w.heap.size, 10, none⟩ = some (.int .u8 pm) := box_cell hF2.bm 10
          have s0 := hF2.c4
          have s1 := hF2.ls.hp.fo 4
          have HF2 := hide (And.intro hρ' (And.intro hr30 (And.intro hF2 (And.intro hjd (And.intro hnew hbw)))))
          clear hρ' hr30 hF2 hjd hnew hbw hw2
          go_wp2_with fail
          refine (where_any dm pm _).mono ?_
          rintro e1 w4 ⟨rfl, hw4⟩
          obtain ⟨hρ', hr30, hF2, hjd, hnew, hbw⟩ := HF2.out
          have hF3 := (hF2.place (.pointer (some ⟨wq.heap.size + 1, 0, none⟩))).1
          have hne : wq.heap.size + 1 ≠ w.heap.size + 1 + 1 := by intro e1; have := hF2.ls.hp.rob; rw [← e1, hr30] at this; cases this
          have hjd3 := hjd.but (But.setCell (w.heap.size + 1 + 1) 4 w2 (.pointer (some ⟨wq.heap.size + 1, 0, none⟩))) hne
          have hb34 : Below (w2.setCell ⟨w.heap.size + 1 + 1, 4, none⟩ (.pointer (some ⟨wq.heap.size + 1, 0, none⟩))).heap.size (w2.setCell ⟨w.heap.size + 1 + 1, 4, none⟩ (.pointer (some ⟨wq.heap.size + 1, 0, none⟩))) w4 := by rw [hw4]; exact (Below.refl _ _).alloc (Nat.le_refl _) _
          have hF4 := hF3.below hb34
          have hjd4 := hjd3.below hb34
          have HSZ4 : Hid (w4.heap.size = wq.heap.size + 1 + 1 + 1) := by show w4.heap.size = wq.heap.size + 1 + 1 + 1; rw [hw4]; simp [hsz]
          have HSZ2 := hide hsz
          clear hsz
          have hkeep4 : ∀ b d, ρ b = 30 → JobD wq b d → JobD w4 b d := by
            intro b d h30 hd
            have hneb : b ≠ w.heap.size + 1 + 1 := by intro e1; have := HF.out.1.ls.hp.rob; rw [← e1, h30] at this; cases this
            exact ((hd.below hbw).but (But.setCell (w.heap.size + 1 + 1) 4 w2 _) hneb).below hb34
          have hh3 := whereOf_lt dm
          have x4 := hF4.ls.ec (whereOf dm) hh3
          have x5 := hF4.ls.ef (whereOf dm)
          have heb : (w.heap.size + 1 + 1 + 1 + 1) < w4.heap.size := World.block_lt_of_cell? w4 _ x4
          have hev : some (w.heap.size + 1 + 1 + 1 + 1) ≠ (E (whereOf dm)).ownBlock := by
            intro e'
            have := hF4.ls.er (whereOf dm) hh3 _ e'.symm
            rw [hF4.ls.re] at this
            omega
          have hbC : Below w4.heap.size w4 (w4.alloc (.cells #[ptr (wq.heap.size + 1)] 30)) := (Below.refl _ _).alloc (Nat.le_refl _) _
          have HBC := hide hbC
          have HOC := hide (own_below (hF4.ls.eo (whereOf dm) hh3) hbC)
          have HNEC : Hid (∀ (j : Nat) (u : Value), [ptr (wq.heap.size + 1)][j]? = some u → (w4.alloc (.cells #[ptr (wq.heap.size + 1)] 30)).cell? ((⟨w4.heap.size, 0, none⟩ : Addr).add j) = some u) :=
            World.news_of_block (cs := #[ptr (wq.heap.size + 1)]) (t := 30) (fr := (0, 0)) (MapKept.heap_alloc w4 _).1
          have hwcs : w.heap.size ≤ w4.heap.size := hF4.bl.size
          have hml : m (whereOf dm) ≤ 302 := by
            have q1 := (HF.out.2.1 (whereOf dm) hh3).1
            have q2 := HF.out.2.2.1 (whereOf dm) hh3
            have q3 := cN_le none (whereOf dm)
            have q4 := cN_le none (whereOf dm)
            omega
          have HF4 := hide (And.intro hF4 (And.intro hjd4 hkeep4))
          have z1 : (w4.alloc (.cells #[.pointer (some ⟨wq.heap.size + 1, 0, none⟩)] 30)).cell? ⟨w.heap.size + 1 + 1 + 1 + 1, whereOf dm, none⟩ = some (E (whereOf dm)) := bcellOf HBC.out x4
          have z3 : (w4.alloc (.cells #[.pointer (some ⟨wq.heap.size + 1, 0, none⟩)] 30)).frozen? ⟨w.heap.size + 1 + 1 + 1 + 1, whereOf dm, none⟩ = false := (HBC.out.frozen (p := ⟨w.heap.size + 1 + 1 + 1 + 1, whereOf dm, none⟩) heb).trans x5
          clear hρ' hr30 hF2 hjd hnew hbw hF3 hjd3 hb34 hF4 hjd4 hkeep4 hw4 hbC s0 s1 b0 b1 b2 b3 b4 b5 b6 b7 b8 b9 b10
          have i0 : (0 : Int) ≤ (whereOf dm : Int) := by omega
          have i1 : (whereOf dm : Int) < 3 := by omega
          go_wp2_with (at_builtin; refine wpList_append_lies _ rfl (.tmp 103) (.tmp 105) 28 rfl w.heap.size 30 i30 (.pointer none) 1 8 Yba.underlying28 hi30 hz1 hz2 hz3 rfl (by decide) (E (whereOf dm)) (m (whereOf dm)) (ptrs (m (whereOf dm)) (e (whereOf dm))) rfl HOC.out ⟨w4.heap.size, 0, none⟩ 1 1 [ptr (wq.heap.size + 1)] rfl rfl HNEC.out (by simp [ptr, Value.oneCell']) (by decide) (by unfold maxLen; omega) (by omega) (by simp; omega) _ rfl ?_; intro q cap' w1 hown hgrow hat hltq
                       have y2 : w1.cell? ⟨w.heap.size + 1 + 1 + 1 + 1, whereOf dm, none⟩ = some (E (whereOf dm)) := by rw [hgrow.cell_far _ (by simp; omega) hev]; exact z1
                       have y3 : w1.frozen? ⟨w.heap.size + 1 + 1 + 1 + 1, whereOf dm, none⟩ = false := by rw [hgrow.frozen_far _ (by simp; omega) hev]; exact z3
                       have HOWN := hide hown
                       have HGROW := hide hgrow
                       have HAT := hide hat
                       clear hown hgrow hat)
          go_meet
          have hsz4 := HSZ4.out
          have hsz := HSZ2.out
          obtain ⟨hρ', hr30, hF2, hjd, hnew, hbw⟩ := HF2.out
          obtain ⟨hF4, hjd4, hkeep4⟩ := HF4.out
          obtain ⟨hF, ht, hnl, hro, hrs, hap⟩ := HF.out
          obtain ⟨ρ3, hρ3, hF5, hkj⟩ := hF4.exped hh3 hr30 hjd4.z (hnew _ hh3) HBC.out HOWN.out HGROW.out HAT.out (by simp)
          have hag : ∀ b, b < wq.heap.size → ρ3 b = ρ b := fun b hb => (hρ3 b (by omega)).trans (hρ' b hb)
          have hkk : ∀ b d, ρ b = 30 → JobD wq b d → JobD _ b d := fun b d h30 hd => hkj b d ((hρ' b hd.lt).trans h30) (hkeep4 b d h30 hd)
          have hsz5 := hF5.ls.hp.hB
          have hl4 := HGROW.out.size
          simp at hl4
          exact ⟨wq.heap.size + 1, rfl, ρ3, V, _, n, _, g, _, hF5, ht.add (b := wq.heap.size + 1) (d := dm) (by intro i; simp [jobOf, cN]) (by intro i x; simp [jobOf, cC]), hnl, ⟨hkj _ _ hr30 hjd4, (hρ3 _ (by omega)).trans hr30, by simp; omega⟩, trivial, trivial⟩
      case rest =>
        obtain ⟨bj, rfl, hmid⟩ := hcut
        generalize hom : jobOf hm bj dm = om at hmid ⊢
        have HMID := hide hmid
        clear hmid
        go_upto_if 108 with fail
        go_cut [22, 24] from 108 (fun v _ wx => MidS w k ks dm ds pm ps bb om hS v wx)
        case first =>
          cases hS
          · go_wp2_with fail
            go_meet
            exact ⟨0, rfl, HMID.out⟩
          · obtain ⟨ρ, V, E, n, m, g, e, hF, ht, hnl, hro, hrs, hap⟩ := HMID.out
            have b0 : wc.cell? ⟨w.heap.size + 1, 0, none⟩ = some (.float .f64 ds.mh) := box_cell hF.bs 0
            have b1 : wc.cell? ⟨w.heap.size + 1, 1, none⟩ = some (.float .f64 ds.ml) := box_cell hF.bs 1
            have b2 : wc.cell? ⟨w.heap.size + 1, 2, none⟩ = some (.float .f64 ds.sh) := box_cell hF.bs 2
            have b3 : wc.cell? ⟨w.heap.size + 1, 3, none⟩ = some (.float .f64 ds.sl) := box_cell hF.bs 3
            have b4 : wc.cell? ⟨w.heap.size + 1, 4, none⟩ = some (.float .f64 ds.at_) := box_cell hF.bs 4
            have b5 : wc.cell? ⟨w.heap.size + 1, 5, none⟩ = some (.float .f64 ds.kh) := box_cell hF.bs 5
            have b6 : wc.cell? ⟨w.heap.size + 1, 6, none⟩ = some (.float .f64 ds.kl) := box_cell hF.bs 6
            have b7 : wc.cell? ⟨w.heap.size + 1, 7, none⟩ = some (.float .f64 ds.ks) := box_cell hF.bs 7
            have b8 : wc.cell? ⟨w.heap.size + 1, 8, none⟩ = some (.bool ds.fol) := box_cell hF.bs 8
            have b9 : wc.cell? ⟨w.heap.size + 1, 9, none⟩ = some (.int .i64 ds.seq) := box_cell hF.bs 9
            have b10 : wc.cell? ⟨w.heap.size + 1, 10, none⟩ = some (.int .u8 ps) := box_cell hF.bs 10
            have HF := hide (And.intro hF (And.intro ht (And.intro hnl (And.intro hro (And.intro hrs hap)))))
            clear hF ht hnl hro hrs hap HMID
            go_wp2_with fail
            refine (mk_any ds ps wc).mono ?_
            rintro e1 w2 ⟨rfl, hw2⟩
            obtain ⟨ρ', hρ', hr30, hF2, hjd, hnew, hbw, hsz⟩ := mk_step HF.out.1 hw2
            clear b0 b1 b2 b3 b4 b5 b6 b7 b8 b9 b10
            have b0 : w2.cell? ⟨w.heap.size + 1, 0, none⟩ = some (.float .f64 ds.mh) := box_cell hF2.bs 0
            have b1 : w2.cell? ⟨w.heap.size + 1, 1, none⟩ = some (.float .f64 ds.ml) := box_cell hF2.bs 1
            have b2 : w2.cell? ⟨w.heap.size + 1, 2, none⟩ = some (.float .f64 ds.sh) := box_cell hF2.bs 2
            have b3 : w2.cell? ⟨w.heap.size + 1, 3, none⟩ = some (.float .f64 ds.sl) := box_cell hF2.bs 3
            have b4 : w2.cell? ⟨w.heap.size + 1, 4, none⟩ = some (.float .f64 ds.at_) := box_cell hF2.bs 4
            have b5 : w2.cell? ⟨w.heap.size + 1, 5, none⟩ = some (.float .f64 ds.kh) := box_cell hF2.bs 5
            have b6 : w2.cell? ⟨w.heap.size + 1, 6, none⟩ = some (.float .f64 ds.kl) := box_cell hF2.bs 6
            have b7 : w2.cell? ⟨w.heap.size + 1, 7, none⟩ = some (.float .f64 ds.ks) := box_cell hF2.bs 7
            have b8 : w2.cell? ⟨w.heap.size + 1, 8, none⟩ = some (.bool ds.fol) := box_cell hF2.bs 8
            have b9 : w2.cell? ⟨w.heap.size + 1, 9, none⟩ = some (.int .i64 ds.seq) := box_cell hF2.bs 9
            have b10 : w2.cell? ⟨w.heap.size + 1, 10, none⟩ = some (.int .u8 ps) := box_cell hF2.bs 10
            have s0 := hF2.c5
            have s1 := hF2.ls.hp.fo 5
            have HF2 := hide (And.intro hρ' (And.intro hr30 (And.intro hF2 (And.intro hjd (And.intro hnew hbw)))))
            clear hρ' hr30 hF2 hjd hnew hbw hw2
            go_wp2_with fail
            refine (where_any ds ps _).mono ?_
            rintro e1 w4 ⟨rfl, hw4⟩
            obtain ⟨hρ', hr30, hF2, hjd, hnew, hbw⟩ := HF2.out
            have hF3 := (hF2.place (.pointer (some ⟨wc.heap.size + 1, 0, none⟩))).2.1
            have hne : wc.heap.size + 1 ≠ w.heap.size + 1 + 1 := by intro e1; have := hF2.ls.hp.rob; rw [← e1, hr30] at this; cases this
            have hjd3 := hjd.but (But.setCell (w.heap.size + 1 + 1) 5 w2 (.pointer (some ⟨wc.heap.size + 1, 0, none⟩))) hne
            have hb34 : Below (w2.setCell ⟨w.heap.size + 1 + 1, 5, none⟩ (.pointer (some ⟨wc.heap.size + 1, 0, none⟩))).heap.size (w2.setCell ⟨w.heap.size + 1 + 1, 5, none⟩ (.pointer (some ⟨wc.heap.size + 1, 0, none⟩))) w4 := by rw [hw4]; exact (Below.refl _ _).alloc (Nat.le_refl _) _
            have hF4 := hF3.below hb34
            have hjd4 := hjd3.below hb34
            have HSZ4 : Hid (w4.heap.size = wc.heap.size + 1 + 1 + 1) := by show w4.heap.size = wc.heap.size + 1 + 1 + 1; rw [hw4]; simp [hsz]
            have HSZ2 := hide hsz
            clear hsz
            have hkeep4 : ∀ b d, ρ b = 30 → JobD wc b d → JobD w4 b d := by
              intro b d h30 hd
              have hneb : b ≠ w.heap.size + 1 + 1 := by intro e1; have := HF.out.1.ls.hp.rob; rw [← e1, h30] at this; cases this
              exact ((hd.below hbw).but (But.setCell (w.heap.size + 1 + 1) 5 w2 _) hneb).below hb34
            have hh3 := whereOf_lt ds
            have x4 := hF4.ls.ec (whereOf ds) hh3
            have x5 := hF4.ls.ef (whereOf ds)
            have heb : (w.heap.size + 1 + 1 + 1 + 1) < w4.heap.size := World.block_lt_of_cell? w4 _ x4
            have hev : some (w.heap.size + 1 + 1 + 1 + 1) ≠ (E (whereOf ds)).ownBlock := by
              intro e'
              have := hF4.ls.er (whereOf ds) hh3 _ e'.symm
              rw [hF4.ls.re] at this
              omega
            have hbC : Below w4.heap.size w4 (w4.alloc (.cells #[ptr (wc.heap.size + 1)] 30)) := (Below.refl _ _).alloc (Nat.le_refl _) _
            have HBC := hide hbC
            have HOC := hide (own_below (hF4.ls.eo (whereOf ds) hh3) hbC)
            have HNEC : Hid (∀ (j : Nat) (u : Value), [ptr (wc.heap.size + 1)][j]? = some u → (w4.alloc (.cells #[ptr (wc.heap.size + 1)] 30)).cell? ((⟨w4.heap.size, 0, none⟩ : Addr).add j) = some u) :=
              World.news_of_block (cs := #[ptr (wc.heap.size + 1)]) (t := 30) (fr := (0, 0)) (MapKept.heap_alloc w4 _).1
            have hwcs : w.heap.size ≤ w4.heap.size := hF4.bl.size
            have hml : m (whereOf ds) ≤ 302 := by
              have q1 := (HF.out.2.1 (whereOf ds) hh3).1
              have q2 := HF.out.2.2.1 (whereOf ds) hh3
              have q3 := cN_le om (whereOf ds)
              have q4 := cN_le none (whereOf ds)
              omega
            have HF4 := hide (And.intro hF4 (And.intro hjd4 hkeep4))
            have z1 : (w4.alloc (.cells #[.pointer (some ⟨wc.heap.size + 1, 0, none⟩)] 30)).cell? ⟨w.heap.size + 1 + 1 + 1 + 1, whereOf ds, none⟩ = some (E (whereOf ds)) := bcellOf HBC.out x4
            have z3 : (w4.alloc (.cells #[.pointer (some ⟨wc.heap.size + 1, 0, none⟩)] 30)).frozen? ⟨w.heap.size + 1 + 1 + 1 + 1, whereOf ds, none⟩ = false := (HBC.out.frozen (p := ⟨w.heap.size + 1 + 1 + 1 + 1, whereOf ds, none⟩) heb).trans x5
            clear hρ' hr30 hF2 hjd hnew hbw hF3 hjd3 hb34 hF4 hjd4 hkeep4 hw4 hbC s0 s1 b0 b1 b2 b3 b4 b5 b6 b7 b8 b9 b10
            have i0 : (0 : Int) ≤ (whereOf ds : Int) := by omega
            have i1 : (whereOf ds : Int) < 3 := by omega
            go_wp2_with (at_builtin; refine wpList_append_lies _ rfl (.tmp 120) (.tmp 122) 28 rfl w.heap.size 30 i30 (.pointer none) 1 8 Yba.underlying28 hi30 hz1 hz2 hz3 rfl (by decide) (E (whereOf ds)) (m (whereOf ds)) (ptrs (m (whereOf ds)) (e (whereOf ds))) rfl HOC.out ⟨w4.heap.size, 0, none⟩ 1 1 [ptr (wc.heap.size + 1)] rfl rfl HNEC.out (by simp [ptr, Value.oneCell']) (by decide) (by unfold maxLen; omega) (by omega) (by simp; omega) _ rfl ?_; intro q cap' w1 hown hgrow hat hltq
                         have y2 : w1.cell? ⟨w.heap.size + 1 + 1 + 1 + 1, whereOf ds, none⟩ = some (E (whereOf ds)) := by rw [hgrow.cell_far _ (by simp; omega) hev]; exact z1
                         have y3 : w1.frozen? ⟨w.heap.size + 1 + 1 + 1 + 1, whereOf ds, none⟩ = false := by rw [hgrow.frozen_far _ (by simp; omega) hev]; exact z3
                         have HOWN := hide hown
                         have HGROW := hide hgrow
                         have HAT := hide hat
                         clear hown hgrow hat)
            go_meet
            have hsz4 := HSZ4.out
            have hsz := HSZ2.out
            obtain ⟨hρ', hr30, hF2, hjd, hnew, hbw⟩ := HF2.out
            obtain ⟨hF4, hjd4, hkeep4⟩ := HF4.out
            obtain ⟨hF, ht, hnl, hro, hrs, hap⟩ := HF.out
            obtain ⟨ρ3, hρ3, hF5, hkj⟩ := hF4.exped hh3 hr30 hjd4.z (hnew _ hh3) HBC.out HOWN.out HGROW.out HAT.out (by simp)
            have hag : ∀ b, b < wc.heap.size → ρ3 b = ρ b := fun b hb => (hρ3 b (by omega)).trans (hρ' b hb)
            have hkk : ∀ b d, ρ b = 30 → JobD wc b d → JobD _ b d := fun b d h30 hd => hkj b d ((hρ' b hd.lt).trans h30) (hkeep4 b d h30 hd)
            have hsz5 := hF5.ls.hp.hB
            have hl4 := HGROW.out.size
            simp at hl4
            refine ⟨wc.heap.size + 1, rfl, ρ3, V, _, n, _, g, _, hF5, ht.add (b := wc.heap.size + 1) (d := ds) (by intro i; simp [jobOf, cN]) (by intro i x; simp [jobOf, cC]), hnl, hro.mono hkk hag (by simp; omega), ⟨hkj _ _ hr30 hjd4, (hρ3 _ (by omega)).trans hr30, by simp; omega⟩, ?_⟩
            cases om with
            | none => trivial
            | some p => have := hro.2.2; simp [jobOf, Apart]; omega
        case rest =>
          obtain ⟨bj2, rfl, hmid⟩ := hcut
          generalize hos : jobOf hS bj2 ds = os at hmid ⊢
          obtain ⟨ρ, V, E, n, m, g, e, hF, ht, hnl, hro, hrs, hap⟩ := hmid
          have HFH := hide (fileHeld_any ρ w.heap.size (w.heap.size + 1 + 1) ks V n g om os wc hk4 hF.ls.hp (fun h hh => by have := hnl h hh; omega) hF.c4 hF.c5 hro hrs hap)
          have HF := hide (And.intro hF (And.intro ht hnl))
          have HOM := hide hom
          have HOS := hide hos
          clear hF ht hnl hro hrs hap hom hos HMID
          go_wp2_with fail
          refine HFH.out.mono ?_
          rintro e1 w5 ⟨rfl, hfs0, d4, d5, fm, fs⟩
          obtain ⟨V', g', hA⟩ := Mid.filed HF.out.1 HF.out.2.1 HF.out.2.2 hlen hfs0 d4 d5 fm fs
          have d0 := hA.d0
          have d6 := hA.d6
          have hneq := run_neq_job w5 bb
          have HA := hide hA
          clear hA hfs0 fm fs HF HFH
          go_wp2_with fail
          go_loop [25, 26, 27] (fun h _ _ => ∃ hn : Nat, hn ≤ 3 ∧ h = .int .i64 hn) (fun h _ _ => 3 - (intOf h).toNat)
          case atStart => exact ⟨0, by decide, rfl⟩
          case round =>
            obtain ⟨hn, hn3, rfl⟩ := hrel
            by_cases hlt3 : hn < 3
            · obtain ⟨a1, cap1, hv1⟩ := own_form (HA.out.fin.vo hn hlt3)
              obtain ⟨a2, cap2, hv2⟩ := own_form (HA.out.fin.eo hn hlt3)
              have t1 := HA.out.fin.hc hn hlt3
              have t2 := HA.out.fin.vc hn hlt3
              have t3 := HA.out.fin.ec hn hlt3
              have ho1 := HA.out.fin.vo hn hlt3
              have ho2 := HA.out.fin.eo hn hlt3
              rw [hv1] at t2 ho1
              rw [hv2] at t3 ho2
              have HO1 := hide ho1
              have HO2 := hide ho2
              have hm302 := HA.out.hm hn hlt3
              clear hv1 hv2 ho1 ho2 d0 d4 d5 d6 hneq
              have i0 : (0 : Int) ≤ (hn : Int) := by omega
              have i1 : (hn : Int) < 3 := by omega
              go_wp2_with fail
              go_loop [27] (fun i => ∃ j : Nat, j ≤ m hn ∧ i = .int .i64 j) (fun i => m hn - (intOf i).toNat)
              case atStart => exact ⟨0, Nat.zero_le _, rfl⟩
              case round =>
                obtain ⟨j, hj, rfl⟩ := hrel
                by_cases hjm : j < m hn
                · obtain ⟨q2, rfl, t4⟩ := own_at HO2.out hjm
                  have hcount := count_any w.heap.size (m hn) (e hn j) (g' hn) (.slice a1 (m hn) cap1) w5 (by omega) HO1.out (fun k hk => HA.out.fin.zg hn hlt3 k hk) (HA.out.fin.ze hn hlt3 j hjm) (by omega)
                  rw [HA.out.fin.one hn hlt3 j hjm] at hcount
                  have HC := hide hcount
                  clear hcount
                  go_wp2_with fail
                  refine HC.out.mono ?_
                  rintro e1 w6 ⟨rfl, rfl⟩
                  go_wp2_with fail
                  go_round
                  case rel => exact ⟨j + 1, by omega, by go_num⟩
                  case measure => simp [intOf]; omega
                · have hjm2 : j = m hn := by omega
                  clear hjm hj
                  subst hjm2
                  go_wp2_with fail
                  exact ⟨⟨hn + 1, by omega, by go_num⟩, by simp [intOf]; omega⟩
            · have h3 : hn = 3 := by omega
              subst h3
              cases hm
              · cases hS
                · have hom := HOM.out
                  have hos := HOS.out
                  obtain rfl : (none : Job) = om := hom
                  obtain rfl : (none : Job) = os := hos
                  clear d0 d4 d5 d6 hneq HOM HOS
                  go_wp2
                  go_ret
                  exact ⟨rfl, HA.out.bl⟩
                · have hom := HOM.out
                  have hos := HOS.out
                  obtain rfl : (none : Job) = om := hom
                  obtain rfl : some (bj2, ds) = os := hos
                  clear d0 d4 d5 d6 hneq HOM HOS
                  have hh2 : held (some (bj2, ds)) = .pointer (some ⟨bj2, 0, none⟩) := rfl
                  have b0 : w5.cell? ⟨w.heap.size + 1, 0, none⟩ = some (.float .f64 ds.mh) := box_cell HA.out.bs 0
                  have b1 : w5.cell? ⟨w.heap.size + 1, 1, none⟩ = some (.float .f64 ds.ml) := box_cell HA.out.bs 1
                  have b2 : w5.cell? ⟨w.heap.size + 1, 2, none⟩ = some (.float .f64 ds.sh) := box_cell HA.out.bs 2
                  have b3 : w5.cell? ⟨w.heap.size + 1, 3, none⟩ = some (.float .f64 ds.sl) := box_cell HA.out.bs 3
                  have b4 : w5.cell? ⟨w.heap.size + 1, 4, none⟩ = some (.float .f64 ds.at_) := box_cell HA.out.bs 4
                  have b5 : w5.cell? ⟨w.heap.size + 1, 5, none⟩ = some (.float .f64 ds.kh) := box_cell HA.out.bs 5
                  have b6 : w5.cell? ⟨w.heap.size + 1, 6, none⟩ = some (.float .f64 ds.kl) := box_cell HA.out.bs 6
                  have b7 : w5.cell? ⟨w.heap.size + 1, 7, none⟩ = some (.float .f64 ds.ks) := box_cell HA.out.bs 7
                  have b8 : w5.cell? ⟨w.heap.size + 1, 8, none⟩ = some (.bool ds.fol) := box_cell HA.out.bs 8
                  have b9 : w5.cell? ⟨w.heap.size + 1, 9, none⟩ = some (.int .i64 ds.seq) := box_cell HA.out.bs 9
                  have b10 : w5.cell? ⟨w.heap.size + 1, 10, none⟩ = some (.int .u8 ps) := box_cell HA.out.bs 10
                  obtain ⟨r2, hj2⟩ := HA.out.fs
                  have HK2 := hide (keyok_any ks bj2 r2 ds ps w5 hk4 hj2)
                  clear hj2
                  go_wp2_with fail
                  refine HK2.out.mono ?_
                  rintro e1 w7 ⟨rfl, hbe⟩
                  have HB7 := hide (HA.out.bl.trans (hbe.mono HA.out.bl.size))
                  clear hbe
                  go_wp2
                  go_ret
                  exact ⟨rfl, HB7.out⟩
              · cases hS
                · have hom := HOM.out
                  have hos := HOS.out
                  obtain rfl : some (bj, dm) = om := hom
                  obtain rfl : (none : Job) = os := hos
                  clear d0 d4 d5 d6 hneq HOM HOS
                  have hh1 : held (some (bj, dm)) = .pointer (some ⟨bj, 0, none⟩) := rfl
                  have b0 : w5.cell? ⟨w.heap.size, 0, none⟩ = some (.float .f64 dm.mh) := box_cell HA.out.bm 0
                  have b1 : w5.cell? ⟨w.heap.size, 1, none⟩ = some (.float .f64 dm.ml) := box_cell HA.out.bm 1
                  have b2 : w5.cell? ⟨w.heap.size, 2, none⟩ = some (.float .f64 dm.sh) := box_cell HA.out.bm 2
                  have b3 : w5.cell? ⟨w.heap.size, 3, none⟩ = some (.float .f64 dm.sl) := box_cell HA.out.bm 3
                  have b4 : w5.cell? ⟨w.heap.size, 4, none⟩ = some (.float .f64 dm.at_) := box_cell HA.out.bm 4
                  have b5 : w5.cell? ⟨w.heap.size, 5, none⟩ = some (.float .f64 dm.kh) := box_cell HA.out.bm 5
                  have b6 : w5.cell? ⟨w.heap.size, 6, none⟩ = some (.float .f64 dm.kl) := box_cell HA.out.bm 6
                  have b7 : w5.cell? ⟨w.heap.size, 7, none⟩ = some (.float .f64 dm.ks) := box_cell HA.out.bm 7
                  have b8 : w5.cell? ⟨w.heap.size, 8, none⟩ = some (.bool dm.fol) := box_cell HA.out.bm 8
                  have b9 : w5.cell? ⟨w.heap.size, 9, none⟩ = some (.int .i64 dm.seq) := box_cell HA.out.bm 9
                  have b10 : w5.cell? ⟨w.heap.size, 10, none⟩ = some (.int .u8 pm) := box_cell HA.out.bm 10
                  obtain ⟨r, hj⟩ := HA.out.fm
                  have HK := hide (keyok_any ks bj r dm pm w5 hk4 hj)
                  clear hj
                  go_wp2_with fail
                  refine HK.out.mono ?_
                  rintro e1 w6 ⟨rfl, hbe⟩
                  have HB6 := hide (HA.out.bl.trans (hbe.mono HA.out.bl.size))
                  clear b0 b1 b2 b3 b4 b5 b6 b7 b8 b9 b10
                  clear hbe hh1
                  go_wp2
                  go_ret
                  exact ⟨rfl, HB6.out⟩
                · have hom := HOM.out
                  have hos := HOS.out
                  obtain rfl : some (bj, dm) = om := hom
                  obtain rfl : some (bj2, ds) = os := hos
                  clear d0 d4 d5 d6 hneq HOM HOS
                  have hh1 : held (some (bj, dm)) = .pointer (some ⟨bj, 0, none⟩) := rfl
                  have b0 : w5.cell? ⟨w.heap.size, 0, none⟩ = some (.float .f64 dm.mh) := box_cell HA.out.bm 0
                  have b1 : w5.cell? ⟨w.heap.size, 1, none⟩ = some (.float .f64 dm.ml) := box_cell HA.out.bm 1
                  have b2 : w5.cell? ⟨w.heap.size, 2, none⟩ = some (.float .f64 dm.sh) := box_cell HA.out.bm 2
                  have b3 : w5.cell? ⟨w.heap.size, 3, none⟩ = some (.float .f64 dm.sl) := box_cell HA.out.bm 3
                  have b4 : w5.cell? ⟨w.heap.size, 4, none⟩ = some (.float .f64 dm.at_) := box_cell HA.out.bm 4
                  have b5 : w5.cell? ⟨w.heap.size, 5, none⟩ = some (.float .f64 dm.kh) := box_cell HA.out.bm 5
                  have b6 : w5.cell? ⟨w.heap.size, 6, none⟩ = some (.float .f64 dm.kl) := box_cell HA.out.bm 6
                  have b7 : w5.cell? ⟨w.heap.size, 7, none⟩ = some (.float .f64 dm.ks) := box_cell HA.out.bm 7
                  have b8 : w5.cell? ⟨w.heap.size, 8, none⟩ = some (.bool dm.fol) := box_cell HA.out.bm 8
                  have b9 : w5.cell? ⟨w.heap.size, 9, none⟩ = some (.int .i64 dm.seq) := box_cell HA.out.bm 9
                  have b10 : w5.cell? ⟨w.heap.size, 10, none⟩ = some (.int .u8 pm) := box_cell HA.out.bm 10
                  obtain ⟨r, hj⟩ := HA.out.fm
                  have HK := hide (keyok_any ks bj r dm pm w5 hk4 hj)
                  clear hj
                  go_wp2_with fail
                  refine HK.out.mono ?_
                  rintro e1 w6 ⟨rfl, hbe⟩
                  have HB6 := hide (HA.out.bl.trans (hbe.mono HA.out.bl.size))
                  have hbs6 : w6.heap[w.heap.size + 1]? = some (.cells (dval ds ps) 25) := by rw [hbe.block _ (lt_of_block HA.out.bs)]; exact HA.out.bs
                  obtain ⟨r2, hj2⟩ := HA.out.fs
                  have HK2 := hide (keyok_any ks bj2 r2 ds ps w6 hk4 (hj2.below hbe))
                  have HBS6 := hide hbs6
                  clear hj2 hbs6 b0 b1 b2 b3 b4 b5 b6 b7 b8 b9 b10
                  clear hbe hh1
                  have hh2 : held (some (bj2, ds)) = .pointer (some ⟨bj2, 0, none⟩) := rfl
                  have b0 : w6.cell? ⟨w.heap.size + 1, 0, none⟩ = some (.float .f64 ds.mh) := box_cell HBS6.out 0
                  have b1 : w6.cell? ⟨w.heap.size + 1, 1, none⟩ = some (.float .f64 ds.ml) := box_cell HBS6.out 1
                  have b2 : w6.cell? ⟨w.heap.size + 1, 2, none⟩ = some (.float .f64 ds.sh) := box_cell HBS6.out 2
                  have b3 : w6.cell? ⟨w.heap.size + 1, 3, none⟩ = some (.float .f64 ds.sl) := box_cell HBS6.out 3
                  have b4 : w6.cell? ⟨w.heap.size + 1, 4, none⟩ = some (.float .f64 ds.at_) := box_cell HBS6.out 4
                  have b5 : w6.cell? ⟨w.heap.size + 1, 5, none⟩ = some (.float .f64 ds.kh) := box_cell HBS6.out 5
                  have b6 : w6.cell? ⟨w.heap.size + 1, 6, none⟩ = some (.float .f64 ds.kl) := box_cell HBS6.out 6
                  have b7 : w6.cell? ⟨w.heap.size + 1, 7, none⟩ = some (.float .f64 ds.ks) := box_cell HBS6.out 7
                  have b8 : w6.cell? ⟨w.heap.size + 1, 8, none⟩ = some (.bool ds.fol) := box_cell HBS6.out 8
                  have b9 : w6.cell? ⟨w.heap.size + 1, 9, none⟩ = some (.int .i64 ds.seq) := box_cell HBS6.out 9
                  have b10 : w6.cell? ⟨w.heap.size + 1, 10, none⟩ = some (.int .u8 ps) := box_cell HBS6.out 10
                  go_wp2_with fail
                  refine HK2.out.mono ?_
                  rintro e1 w7 ⟨rfl, hbe⟩
                  have HB7 := hide (HB6.out.trans (hbe.mono HB6.out.size))
                  clear hbe
                  go_wp2
                  go_ret
                  exact ⟨rfl, HB7.out⟩

set_option maxRecDepth 100000 in
set_option maxHeartbeats 1000000 in
theorem files_large (sel : Int) (pa : Option Addr) (len cap : Nat) (hm hS : Bool) (dm ds : Dat) (pm ps : Int) (w : World) (hlen : 300 < len) :
    Calls Yba.prog 3 #[.int .u8 sel, .slice pa len cap, .bool hm, .agg (dval dm pm), .bool hS, .agg (dval ds ps)] w fun e w' => e = .returned (.bool true) ∧ Below w.heap.size w w' := by
  go_enter Yba.func3, Yba.ntmps3
  go_wp2
  go_ret
  exact ⟨rfl, ((Below.refl _ _).alloc (Nat.le_refl _) _).alloc (by simp) _⟩
end Go.Proofs.Ybulkcome
