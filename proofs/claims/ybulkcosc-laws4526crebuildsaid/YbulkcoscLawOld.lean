import Derived.Test.YbulkcoscOld3
namespace Go.Proofs.Ybulkcosc
open Go.RowKit

def L7 (w : World) (sb db ob size : Nat) (E : Nat → Option Nat) (H : Nat → Nat) (vl vh vp vq : Value) (m : Nat) (Lv Hh : Nat → Nat) (i : Value) (W : World) : Prop := ∃ q : Nat, q ≤ size ∧ i = .int .i64 (q : Int) ∧ OW w.heap.size sb db ob size E H vl vh vp vq m Lv Hh W ∧ Below w.heap.size w W

set_option maxRecDepth 100000 in
set_option maxHeartbeats 8000000 in
theorem law_old (pa : Option Addr) (ln ac : Nat) (sel nsel used : Int) (Kd : Nat → Int) (Hs : Nat → Nat) (St : Nat → ByteArray) (w : World) (hs : 0 ≤ sel ∧ sel < 256) (hsel : sel % 4 ≠ 3) (hns : 0 ≤ nsel ∧ nsel < 65536)
    (hsp : ln = 0 ∨ ∃ b o, pa = some ⟨b, o, none⟩ ∧ SpecAt w b o ln Kd Hs St) :
    Calls Yba.prog 3 #[.slice pa ln ac, .int .u8 sel, .int .u16 nsel, .int .i64 used] w fun e w' => e = .returned (.bool true) ∧ Below w.heap.size w w' := by
  have hm0 : 0 ≤ nsel % 300 := by omega
  have hm1 : nsel % 300 < 300 := by omega
  obtain ⟨size, hsize, hs1, hs2⟩ := size_of sel
  have hmk := make35 size (by omega)
  have hsb : (sel % 4 != 3) = true := by simp [hsel]
  have HSP := hide hsp
  clear hsp
  go_enter Yba.func3, Yba.ntmps3
  go_wp2_with fail
  have hS0 := S1.start w size
  generalize ((((w.alloc (.cells #[.pointer none, .int .i64 0, .int .i64 0] 32)).alloc (.cells (mcs slot0 (size * 2)) 51)).alloc (.cells #[.string ⟨#[]⟩] 38)).alloc (.cells #[.slice (some ⟨w.heap.size + 1, 0, none⟩) size size, .pointer (some ⟨w.heap.size + 1 + 1, 0, none⟩)] 40)) = W0 at hS0 ⊢
  have HS0 := hide hS0
  clear hS0 hmk
  rw [hsize]
  clear hsize
  go_loopw [16, 17, 12, 13] (fun i _ vl vh wz => L1 w (w.heap.size + 1) (w.heap.size + 1 + 1) (w.heap.size + 1 + 1 + 1) size w.heap.size #[.pointer none, .int .i64 0, .int .i64 0] i vl vh wz) (fun i _ _ _ _ => size - (intOf i).toNat)
  case atStart => exact ⟨0, 0, _, _, _, _, by omega, by omega, rfl, HS0.out, fun _ _ => rfl, ⟨(cl_none _ _).symm, fun _ h => by omega⟩⟩
  case round =>
    clear HS0
    obtain ⟨k, m, E, H, Lv, Hh, hk, hmk, rfl, hS, hem, hlv⟩ := hrel
    have HS := hide hS
    have HLV := hide (And.intro hem hlv)
    clear hS hem hlv
    go_upto_region 11 with fail
    go_cut [54] from 46 to 132 (fun v wx => TestR (decide (k < size) && decide (k < ln)) wr v wx)
    case first =>
      by_cases hlt : k < size
      · have hd1 : decide ((k : Int) < (size : Int)) = true := by simp; omega
        by_cases hlt2 : k < ln
        · have hd2 : decide ((k : Int) < (ln : Int)) = true := by simp; omega
          go_wp2_with fail
          go_meet
          exact ⟨by simp [hlt, hlt2], rfl⟩
        · have hd2 : decide ((k : Int) < (ln : Int)) = false := by simp; omega
          go_wp2_with fail
          go_meet
          exact ⟨by simp [hlt, hlt2], rfl⟩
      · have hd1 : decide ((k : Int) < (size : Int)) = false := by simp; omega
        go_wp2_with fail
        go_meet
        exact ⟨by simp [hlt], rfl⟩
    case rest =>
      obtain ⟨rfl, hwc⟩ := hcut
      obtain rfl := hwc.symm
      clear hwc
      by_cases hgo : k < size ∧ k < ln
      · obtain ⟨hlt, hlt2⟩ := hgo
        have hdd : (decide (k < size) && decide (k < ln)) = true := by simp [hlt, hlt2]
        rw [hdd]
        clear hdd
        obtain ⟨b, o, rfl, hspec⟩ : ∃ b o, pa = some ⟨b, o, none⟩ ∧ SpecAt w b o ln Kd Hs St := by
          rcases HSP.out with h | h
          · omega
          · exact h
        obtain ⟨q0, q1, q2, q3, q4, q5⟩ := (hspec.below HS.out.t.bl) k hlt2
        have HQ := hide (hspec k hlt2)
        clear hspec
        rcases (by omega : Kd k % 3 = 0 ∨ Kd k % 3 = 1 ∨ Kd k % 3 = 2) with hk3 | hk3 | hk3
        · go_wp2_with fail
          go_roundw
          case rel => exact ⟨k + 1, m, E, H, Lv, Hh, by omega, by omega, by go_num, HS.out, fun j hj => HLV.out.1 j (by omega), HLV.out.2⟩
          case measure => simp [intOf]; omega
        · have HC4 := hide ((HS.out.below (Below.refl _ wr).drew).c4 hlt q5)
          have o0 := HS.out.t.o0
          have hek := HLV.out.1 k (Nat.le_refl _)
          go_wp2_with fail
          go_region_held (fun w' => w'.cell? ⟨w.heap.size + 1 + 1 + 1, 0, none⟩ = some (.slice (some ⟨w.heap.size + 1, 0, none⟩) size size) ∧ w'.cell? ⟨b, o + k * 3 + 1, none⟩ = some (.int .u64 (Hs k : Int)))
            (first | (go_simp; done) | (refine ⟨?_, ?_⟩ <;> assumption))
            (first | (go_at_call 4; refine HC4.out.mono ?_; rintro e w2 ⟨rfl, hst, _⟩
                      have m0 := hst.t.o0
                      have m1 := bcellOf hst.t.bl HQ.out.2.1
                      have HS2 := hide hst
                      clear hst))
          have HC5 := hide ((HS2.out.below (Below.refl _ w2).drew).c5 hlt (HS2.out.t.dv.below (Below.refl _ w2).drew) HS2.out.t.ap.mark)
          have m2 := HS2.out.t.o1
          unfold pt at m2
          clear q0 q1 q2 o0 m1 HC4
          go_wp2_with fail
          go_region_held (fun w' => w'.cell? ⟨w.heap.size + 1 + 1 + 1, 0, none⟩ = some (.slice (some ⟨w.heap.size + 1, 0, none⟩) size size) ∧ w'.cell? ⟨w.heap.size + 1 + 1 + 1, 1, none⟩ = some (.pointer (some ⟨w.heap.size + 1 + 1, 0, none⟩)))
            (first | (go_simp; done) | (refine ⟨?_, ?_⟩ <;> assumption))
            (first | (go_at_call 5; refine HC5.out.mono ?_; rintro e w3 ⟨rfl, hst, _⟩
                      have n0 := hst.t.o0
                      have n1 := hst.t.o1
                      unfold pt at n1
                      have HS3 := hide hst
                      clear hst))
          go_wp2_with fail
          go_roundw
          case rel => exact ⟨k + 1, m, _, _, Lv, Hh, by omega, by omega, by go_num, HS3.out, fun j hj => by rw [upd_other _ _ (by omega)]; exact HLV.out.1 j (by omega), HLV.out.2.mark hek⟩
          case measure => simp [intOf]; omega
        · have hbE : Below wr.heap.size wr (wr.alloc (.cells #[.string (St k)] 38)) := (Below.refl _ _).alloc (Nat.le_refl _) _
          have hVe := Vb.new wr #[.string (St k)] 38
          have hSE := HS.out.below hbE
          have hfr : ∀ j, j < size → E j ≠ some wr.heap.size := fun j hj he => by
            have := (HS.out.t.tab.v j _ hj he).lt
            omega
          have hdb : wr.heap.size ≠ w.heap.size + 1 + 1 := by
            have := HS.out.t.dv.lt
            omega
          have hek := HLV.out.1 k (Nat.le_refl _)
          have o0 := hSE.t.o0
          have p1 := bcellOf hbE q1
          have HSE := hide hSE
          have HVE := hide hVe
          have HFR := hide (And.intro hfr hdb)
          clear hSE hVe hfr hdb
          go_wp2_with fail
          generalize wr.alloc (.cells #[.string (St k)] 38) = w1 at o0 p1 HSE HVE hbE ⊢
          clear hbE q0 q1 q2
          generalize wr.heap.size = eb at HVE HFR ⊢
          have HC4 := hide ((HSE.out.below (Below.refl _ w1).drew).c4 hlt q5)
          go_region_held (fun w' => w'.cell? ⟨w.heap.size + 1 + 1 + 1, 0, none⟩ = some (.slice (some ⟨w.heap.size + 1, 0, none⟩) size size) ∧ w'.cell? ⟨b, o + k * 3 + 1, none⟩ = some (.int .u64 (Hs k : Int)))
            (first | (go_simp; done) | (refine ⟨?_, ?_⟩ <;> assumption))
            (first | (go_at_call 4; refine HC4.out.mono ?_; rintro e w2 ⟨rfl, hst, hvb⟩
                      have m0 := hst.t.o0
                      have m1 := bcellOf hst.t.bl HQ.out.2.1
                      have HS2 := hide (And.intro hst (hvb eb (HVE.out.below (Below.refl _ w1).drew)))
                      clear hst hvb))
          have HC5 := hide (HS2.out.1.c5 hlt HS2.out.2 (HS2.out.1.t.ap.add HFR.out.1))
          clear o0 p1 HC4 m1
          go_wp2_with fail
          refine HC5.out.mono ?_
          rintro e w3 ⟨rfl, hst, hvb⟩
          have HS3 := hide (And.intro hst (hvb eb HS2.out.2))
          clear hst hvb HC5 m0 HS2 HSE HVE
          obtain ⟨i36, hi36, hz⟩ := Option.map_eq_some_iff.1 info36
          simp only [Prod.mk.injEq] at hz
          obtain ⟨hz1, hz2, hz3⟩ := hz
          have hbA : Below w3.heap.size w3 (w3.alloc (.cells #[.pointer (some ⟨eb, 0, none⟩)] 36)) := (Below.refl _ _).alloc (Nat.le_refl _) _
          have HSA := hide (HS3.out.1.below hbA)
          have HNEW : Hid (∀ (j : Nat) (u : Value), [Value.pointer (some ⟨eb, 0, none⟩)][j]? = some u → (w3.alloc (.cells #[.pointer (some ⟨eb, 0, none⟩)] 36)).cell? ((⟨w3.heap.size, 0, none⟩ : Addr).add j) = some u) :=
            World.news_of_block (cs := #[.pointer (some ⟨eb, 0, none⟩)]) (t := 36) (fr := (0, 0)) (MapKept.heap_alloc w3 _).1
          have hle3 := HS3.out.1.t.bl.size
          clear hbA
          go_upto_region 22 with (at_builtin; refine wpList_append_lies _ rfl (.tmp 121) (.tmp 123) 33 rfl w.heap.size 36 i36 (.pointer none) 1 8 Yba.underlying33 hi36 hz1 hz2 hz3 rfl (by decide) u12 m (row m fun k => pv (some (Lv k))) rfl HSA.out.ol ⟨w3.heap.size, 0, none⟩ 1 1 [.pointer (some ⟨eb, 0, none⟩)] rfl rfl HNEW.out (by simp [Value.oneCell']) (by decide) (by unfold maxLen; omega) (by omega) (by simp; omega) _ rfl ?_; intro g cap w4 hown hgrow hat hgl)
          have hT4 := HSA.out.t.grow HSA.out.ol (Or.inl rfl) hgrow
          have HOH4 := hide (own_grow HSA.out.oh HSA.out.ol hgrow (Or.inl (by decide)))
          have HOL4 := hide (show w4.ownsRow w.heap.size 36 1 (.slice (some ⟨g, 0, none⟩) (m + 1) cap) (m + 1) (row (m + 1) fun j => pv (some (upd Lv m eb j))) by rw [← row_push (fun b => pv (some b)) Lv m eb]; exact hown)
          have p4 := bcellOf hT4.bl HQ.out.2.1
          have hle4 := hT4.bl.size
          have HT4 := hide hT4
          clear hT4 hown hgrow hat hgl hz1 hz2 hz3 hi36 HNEW HSA hle3
          obtain ⟨i41, hi41, hz⟩ := Option.map_eq_some_iff.1 info41
          simp only [Prod.mk.injEq] at hz
          obtain ⟨hz1, hz2, hz3⟩ := hz
          have hbA : Below w4.heap.size w4 (w4.alloc (.cells #[.int .u64 (Hs k : Int)] 41)) := (Below.refl _ _).alloc (Nat.le_refl _) _
          have HTA := hide (HT4.out.below hbA)
          have HOHA := hide (own_below HOH4.out hbA)
          have HOLA := hide (own_below HOL4.out hbA)
          have HNEW : Hid (∀ (j : Nat) (u : Value), [Value.int .u64 (Hs k : Int)][j]? = some u → (w4.alloc (.cells #[.int .u64 (Hs k : Int)] 41)).cell? ((⟨w4.heap.size, 0, none⟩ : Addr).add j) = some u) :=
            World.news_of_block (cs := #[.int .u64 (Hs k : Int)]) (t := 41) (fr := (0, 0)) (MapKept.heap_alloc w4 _).1
          clear hbA
          go_wp2_with (at_builtin; refine wpList_append_lies _ rfl (.tmp 125) (.tmp 131) 34 rfl w.heap.size 41 i41 (.int .u64 0) 1 8 Yba.underlying34 hi41 hz1 hz2 hz3 rfl (by decide) u13 m (row m fun k => .int .u64 (Hh k : Int)) rfl HOHA.out ⟨w4.heap.size, 0, none⟩ 1 1 [.int .u64 (Hs k : Int)] rfl rfl HNEW.out (by simp [Value.oneCell']) (by decide) (by unfold maxLen; omega) (by omega) (by simp; omega) _ rfl ?_; intro g2 cap2 w5 hown hgrow hat hgl
                       have HOWN := hide hown
                       have HGROW := hide hgrow
                       clear hown hgrow hat hgl)
          go_roundw
          case rel =>
            refine ⟨k + 1, m + 1, _, _, _, _, by omega, by omega, by go_num, ⟨HTA.out.grow HOHA.out (Or.inr rfl) HGROW.out, own_grow HOLA.out HOHA.out HGROW.out (Or.inl (by decide)), ?_⟩, fun j hj => by rw [upd_other _ _ (by omega)]; exact HLV.out.1 j (by omega), HLV.out.2.add hek hlt HFR.out.2⟩
            rw [← row_push (fun x : Nat => Value.int .u64 (x : Int)) Hh m (Hs k)]
            exact HOWN.out
          case measure => simp [intOf]; omega
      · have hdd : (decide (k < size) && decide (k < ln)) = false := by
          by_cases h1 : k < size
          · simp [h1]; omega
          · simp [h1]
        rw [hdd]
        clear hdd
        go_wp2_with fail
        have HS2 : Hid (S2 w (w.heap.size + 1) (w.heap.size + 1 + 1) (w.heap.size + 1 + 1 + 1) size w.heap.size #[.pointer none, .int .i64 0, .int .i64 0] E H u12 u13 (.slice none 0 0) (.slice none 0 0) m 0 Lv Hh wr) := ⟨HS.out, World.ownsRow_nil _ _ _ _, World.ownsRow_nil _ _ _ _, (fun g _ h => by cases h), (fun g _ h => by cases h)⟩
        have HLV2 := hide HLV.out.2
        have hm64 : m ≤ 64 := by omega
        clear HS HLV hmk hk hgo HSP
        go_loopw [18, 14, 15] (fun i vp vq wz => L2 w (w.heap.size + 1) (w.heap.size + 1 + 1) (w.heap.size + 1 + 1 + 1) size w.heap.size #[.pointer none, .int .i64 0, .int .i64 0] E H u12 u13 m Lv Hh i vp vq wz) (fun i _ _ _ => size - (intOf i).toNat)
        case atStart => exact ⟨0, by omega, rfl, HS2.out⟩
        case round =>
          clear HS2
          obtain ⟨j, hj, rfl, hS⟩ := hrel
          have HSJ := hide hS
          clear hS
          have o0 := HSJ.out.s.t.o0
          by_cases hlt : j < size
          · have hd1 : decide ((j : Int) < (size : Int)) = true := by simp; omega
            have HC6 := hide (c6 (w.heap.size + 1) (j * 2) (E j) wr (HSJ.out.s.t.tab.e j hlt) (fun b hb => HSJ.out.s.t.tab.v j b hlt hb))
            unfold pv at HC6
            obtain ⟨i36, hi36, hz⟩ := Option.map_eq_some_iff.1 info36
            simp only [Prod.mk.injEq] at hz
            obtain ⟨hz1, hz2, hz3⟩ := hz
            have hbA : Below wr.heap.size wr (wr.alloc (.cells #[.pointer ((E j).map fun b => ⟨b, 0, none⟩)] 36)) := (Below.refl _ _).alloc (Nat.le_refl _) _
            have HSA := hide (HSJ.out.below hbA)
            have HNEW : Hid (∀ (i : Nat) (u : Value), [Value.pointer ((E j).map fun b => ⟨b, 0, none⟩)][i]? = some u → (wr.alloc (.cells #[.pointer ((E j).map fun b => ⟨b, 0, none⟩)] 36)).cell? ((⟨wr.heap.size, 0, none⟩ : Addr).add i) = some u) :=
              World.news_of_block (cs := #[.pointer ((E j).map fun b => ⟨b, 0, none⟩)]) (t := 36) (fr := (0, 0)) (MapKept.heap_alloc wr _).1
            have hle3 := HSJ.out.s.t.bl.size
            clear hbA
            go_wp2_with fail
            refine HC6.out.mono ?_
            rintro e w2 ⟨rfl, hw2⟩
            obtain rfl := hw2.symm
            clear hw2 HC6
            go_upto_region 27 with (at_builtin; refine wpList_append_lies _ rfl (.tmp 138) (.tmp 147) 33 rfl w.heap.size 36 i36 (.pointer none) 1 8 Yba.underlying33 hi36 hz1 hz2 hz3 rfl (by decide) u14 j (row j fun i => pv (E i)) rfl HSA.out.op ⟨wr.heap.size, 0, none⟩ 1 1 [.pointer ((E j).map fun b => ⟨b, 0, none⟩)] rfl rfl HNEW.out (by simp [Value.oneCell']) (by decide) (by unfold maxLen; omega) (by omega) (by simp; omega) _ rfl ?_; intro g cap w3 hown hgrow hat hgl)
            have hT3 := HSA.out.s.t.grow HSA.out.op (Or.inl rfl) hgrow
            have HQ3 := hide (own_grow HSA.out.oq HSA.out.op hgrow (Or.inl (by decide)))
            have HG1 := hide (And.intro hown (And.intro hgrow hat))
            have o3 := hT3.o0
            have HC7 := hide (c7 (w.heap.size + 1) (j * 2 + 1) (H j : Int) w3 (hT3.tab.h j hlt))
            have hle4 := hT3.bl.size
            have HT3 := hide hT3
            clear hT3 hown hgrow hat hgl hz1 hz2 hz3 hi36 HNEW hle3 o0
            obtain ⟨i41, hi41, hz⟩ := Option.map_eq_some_iff.1 info41
            simp only [Prod.mk.injEq] at hz
            obtain ⟨hz1, hz2, hz3⟩ := hz
            have hbA : Below w3.heap.size w3 (w3.alloc (.cells #[.int .u64 (H j : Int)] 41)) := (Below.refl _ _).alloc (Nat.le_refl _) _
            have HQA := hide (own_below HQ3.out hbA)
            have HNEW : Hid (∀ (i : Nat) (u : Value), [Value.int .u64 (H j : Int)][i]? = some u → (w3.alloc (.cells #[.int .u64 (H j : Int)] 41)).cell? ((⟨w3.heap.size, 0, none⟩ : Addr).add i) = some u) :=
              World.news_of_block (cs := #[.int .u64 (H j : Int)]) (t := 41) (fr := (0, 0)) (MapKept.heap_alloc w3 _).1
            clear hbA
            go_wp2_with fail
            refine HC7.out.mono ?_
            rintro e w4 ⟨rfl, hw4⟩
            obtain rfl := hw4.symm
            clear hw4 HC7
            go_wp2_with (at_builtin; refine wpList_append_lies _ rfl (.tmp 149) (.tmp 158) 34 rfl w.heap.size 41 i41 (.int .u64 0) 1 8 Yba.underlying34 hi41 hz1 hz2 hz3 rfl (by decide) u15 j (row j fun i => .int .u64 (H i : Int)) rfl HQA.out ⟨w3.heap.size, 0, none⟩ 1 1 [.int .u64 (H j : Int)] rfl rfl HNEW.out (by simp [Value.oneCell']) (by decide) (by unfold maxLen; omega) (by omega) (by simp; omega) _ rfl ?_; intro g2 cap2 w5 hown hgrow hat hgl
                         have HG2 := hide (And.intro hown (And.intro hgrow hat))
                         clear hown hgrow hat hgl)
            go_roundw
            case rel => exact ⟨j + 1, by omega, by go_num, HSJ.out.step rfl HG1.out.2.1 HG1.out.1 HG1.out.2.2 rfl HG2.out.2.1 HG2.out.1 HG2.out.2.2⟩
            case measure => simp [intOf]; omega
          · have hjs : j = size := by omega
            obtain rfl := hjs.symm
            clear hjs hj hlt
            obtain ⟨pl, cpl, hvl, hfl⟩ := own_form HSJ.out.s.ol
            obtain ⟨ph, cph, hvh, hfh⟩ := own_form HSJ.out.s.oh
            obtain ⟨pp, cpp, hvp, hfp⟩ := own_form HSJ.out.op
            obtain ⟨pq, cpq, hvq, hfq⟩ := own_form HSJ.out.oq
            have HF4 := hide (And.intro hfl (And.intro hfh (And.intro hfp hfq)))
            clear hfl hfh hfp hfq
            subst hvl hvh hvp hvq
            have HC8 := hide (HSJ.out.c8 (Nat.le_refl _) (by decide))
            go_wp2_with fail
            refine HC8.out.mono ?_
            rintro e w2 ⟨rfl, hst⟩
            have x1 : w2.cell? ⟨w.heap.size, 1, none⟩ = some (.int .i64 0) := hst.s.t.xcell 1
            have x2 : w2.cell? ⟨w.heap.size, 2, none⟩ = some (.int .i64 0) := hst.s.t.xcell 2
            have f1 := hst.s.t.xfr 1
            have f2 := hst.s.t.xfr 2
            have HS4 := hide ((hst.setX (Nat.le_refl _) 1 (.int .i64 (m : Int))).setX (Nat.le_refl _) 2 (.int .i64 used))
            clear hst HC8 o0 HSJ
            go_upto_if 175 with fail
            generalize (w2.setCell ⟨w.heap.size, 1, none⟩ (.int .i64 (m : Int))).setCell ⟨w.heap.size, 2, none⟩ (.int .i64 used) = w4 at HS4 ⊢
            clear x1 x2 f1 f2
            go_cut [20] from 175 to 176 (fun v wx => NnR m w4 v wx)
            case first =>
              go_wp2_with fail
              all_goals go_meet
              · exact ⟨m, by omega, by omega, rfl, rfl⟩
              · exact ⟨(nsel % 300 - 20).toNat, by omega, by omega, by rw [Int.toNat_of_nonneg (by omega)], rfl⟩
            case rest =>
              obtain ⟨nn, hnm, hnn, rfl, hwc⟩ := hcut
              obtain rfl := hwc.symm
              clear hwc
              go_wp2_with fail
              have HRB := hide (rebuild_old w.heap.size (w.heap.size + 1 + 1 + 1) (w.heap.size + 1) size (w.heap.size + 1 + 1) nn (m : Int) (.int .i64 used) E H w4 hnn hs2 (HS4.out.s.t.xcell 0) (HS4.out.s.t.xcell 1) (HS4.out.s.t.xcell 2) HS4.out.s.t.xfr ⟨_, HS4.out.s.t.ov, rfl⟩ HS4.out.s.t.o0 HS4.out.s.t.o1 HS4.out.s.t.dv HS4.out.s.t.tab HS4.out.s.t.ap (by rw [← HLV2.out.1]; exact hnm) HS4.out.s.t.hH)
              unfold pt at HRB
              refine HRB.out.mono ?_
              intro e W hR
              obtain ⟨rfl, N, F, G, hSz, hF⟩ := hR.fin (u0 := pv (some (w.heap.size + 1 + 1 + 1))) (u2 := .int .i64 used) (HS4.out.s.t.xcell 0) (HS4.out.s.t.xcell 1) (HS4.out.s.t.xcell 2)
              have HOW := hide (hF.old HS4.out)
              have HB := hide HS4.out.s.t.bl
              have HHH := hide HS4.out.s.t.hH
              have hol : w.heap.size + 1 + 1 + 1 < w4.heap.size := lt_of_block HS4.out.s.t.ov
              have x0 := hF.x0
              have x1 := hF.x1
              have x2 := hF.x2
              have t0 := hF.t0
              have t1 := hF.t1
              have htt := tnp hF.tv hF.tv
              have hto := tep hF.tv HOW.out.ov
              have hbo : (w4.heap.size + 1 + 1 == w.heap.size + 1 + 1 + 1) = false := by simp; omega
              have HC10 := hide (c10 w.heap.size 0 (some (w4.heap.size + 1 + 1)) W hF.x0 (fun b hb => by cases hb; exact hF.tv))
              have HF := hide hF
              have HSZ := hide hSz
              clear hF hSz hR HRB HS4
              have te1 := te1
              unfold pv at HC10
              unfold pt at *
              simp only [Option.map_some] at HC10
              go_wp2_with fail
              refine HC10.out.mono ?_
              rintro e w2 ⟨rfl, hw2⟩
              obtain rfl := hw2.symm
              clear hw2 HC10
              have hNle := HSZ.out.le
              go_wp2_with fail
              go_loop [22] (fun s => ∃ k : Nat, s = .int .i64 (k : Int) ∧ Dbl nn k) (fun s => 1024 - (intOf s).toNat)
              case atStart => exact ⟨16, rfl, Dbl.start nn⟩
              case round =>
                obtain ⟨k, rfl, hd⟩ := hrel
                have hle := hd.le
                by_cases hlt : k < 2 * nn
                · have HN := hide (hd.next hnn hlt)
                  clear hd
                  go_wp2_with fail
                  go_round
                  case rel => exact ⟨k * 2, by go_num, HN.out⟩
                  case measure => simp [intOf]; omega
                · have hkN : k = N := (hd.done hlt).uniq HSZ.out
                  clear hd
                  subst hkN
                  have e1 := eq1
                  have n1 := tn1
                  have o1 := HOW.out.o1
                  unfold pt at o1
                  have hdd : (w4.heap.size + 1 == w.heap.size + 1 + 1) = false := by simp; omega
                  have heq : ∀ n, (binOp .eql 36 (.pointer (some ⟨w4.heap.size + 1, 0, none⟩)) (.pointer (some ⟨w.heap.size + 1 + 1, 0, none⟩))).run Yba.prog (W.drewN n) = .ok (.bool (w4.heap.size + 1 == w.heap.size + 1 + 1)) (W.drewN n) := fun n => eqp (HF.out.dv.below (below_drewN W n)) (HOW.out.dv.below (below_drewN W n))
                  go_wp2_with fail
                  go_quiet (fail)
                  go_wp2_with fail
                  have hFN := HF.out.below (by have := HF.out.tab.lt; omega) (by have := HF.out.tab.lt; omega) (below_drewN W nq)
                  have hOWN := HOW.out.below (below_drewN W nq)
                  clear heq
                  generalize W.drewN nq = W2 at hFN hOWN ⊢
                  have t0 := hFN.t0
                  have HFN := hide hFN
                  have HOWN := hide hOWN
                  clear hFN hOWN HF HOW x0 x1 x2 t1 htt hto hbo o1 hdd
                  have m0 := ne0
                  have m1 := ne1
                  go_loop [240, 23, 24] (fun i c _ => ∃ j : Nat, j ≤ k ∧ i = .int .i64 (j : Int) ∧ c = .int .i64 (cnt F j : Int)) (fun i _ _ => k - (intOf i).toNat)
                  case atStart => exact ⟨0, by omega, rfl, rfl⟩
                  case round =>
                    obtain ⟨j, hj, rfl, rfl⟩ := hrel
                    have hcj := cnt_le F j
                    by_cases hlt2 : j < k
                    · have HC6 := hide (c6 w4.heap.size (j * 2) (F j) W2 (HFN.out.tab.e j hlt2) (fun b hb => HFN.out.tab.v j b hlt2 hb))
                      have hc1 : cnt F (j + 1) = cnt F j + if (F j).isSome then 1 else 0 := rfl
                      cases hFj : F j with
                      | none =>
                        rw [hFj] at HC6 hc1
                        have HC1 := hide hc1
                        clear hc1
                        unfold pv at HC6
                        go_wp2_with fail
                        refine HC6.out.mono ?_
                        rintro e w3 ⟨rfl, hw3⟩
                        obtain rfl := hw3.symm
                        clear hw3
                        simp only [Option.map_none]
                        go_wp2_with fail
                        go_round
                        case rel => exact ⟨j + 1, by omega, by go_num, by rw [HC1.out]; simp⟩
                        case measure => simp [intOf]; omega
                      | some b =>
                        rw [hFj] at HC6 hc1
                        have HC1 := hide hc1
                        clear hc1
                        unfold pv at HC6
                        go_wp2_with fail
                        refine HC6.out.mono ?_
                        rintro e w3 ⟨rfl, hw3⟩
                        obtain rfl := hw3.symm
                        clear hw3
                        simp only [Option.map_some]
                        go_wp2_with fail
                        go_round
                        case rel => exact ⟨j + 1, by omega, by go_num, by rw [HC1.out]; simp⟩
                        case measure => simp [intOf]; omega
                    · have hjk : j = k := by omega
                      obtain rfl := hjk.symm
                      have hc0 : cnt F k = m := by rw [HLV2.out.1]; exact HFN.out.good.count
                      rw [hc0]
                      clear hc0 hjk hcj hj hlt2
                      go_wp2_with fail
                      go_loop [26, 27, 28, 29, 30, 31, 32] (fun i _ _ _ _ _ _ => ∃ q : Nat, q ≤ m ∧ i = .int .i64 (q : Int)) (fun i _ _ _ _ _ _ => m - (intOf i).toNat)
                      case atStart => exact ⟨0, by omega, rfl⟩
                      case round =>
                        obtain ⟨q, hq, rfl⟩ := hrel
                        by_cases hlq : q < m
                        · obtain ⟨gl, rfl, c1⟩ := own_ptr HOWN.out.ol rfl hlq
                          obtain ⟨gh, rfl, c2⟩ := own_ptr HOWN.out.oh rfl hlq
                          obtain ⟨jo, hj1, hj2, hj3, hj4⟩ := HLV2.out.2 q hlq
                          have hreach := HFN.out.good.reach jo (Lv q) hj1 hj2 hj3
                          have hhash := HFN.out.good.hash jo (Lv q) hj1 hj2 hj3
                          have hh64 := HHH.out jo hj1
                          rw [hj4] at hreach hhash hh64
                          clear hj1 hj2 hj3 hj4
                          generalize Lv q = eb at c1 hreach hhash
                          generalize Hh q = hv at c2 hreach hhash hh64
                          obtain ⟨dd, hdd, hF1, hF2⟩ := hreach
                          have hVe := HFN.out.tab.v _ eb (Nat.mod_lt _ (by omega)) hF1
                          obtain ⟨p, hp1, hp2⟩ : ∃ p, k = 2 ^ p ∧ p ≤ 10 := by
                            obtain ⟨p, _, h2, h1, _⟩ := HSZ.out
                            exact ⟨p, h1, h2⟩
                          have ha : bits .and .u64 (hv : Int) ((k : Int) - 1) = ((hv % k : Nat) : Int) := by
                            subst hp1; exact and_mask hv p hh64 (by omega)
                          have HP := hide (And.intro hp1 hp2)
                          have HR := hide (And.intro hdd (And.intro hF1 (And.intro hF2 (And.intro hhash hVe))))
                          clear hp1 hp2 hdd hF1 hF2 hhash hVe hh64
                          unfold pv at c1
                          simp only [Option.map_some] at c1
                          obtain ⟨j0, hj0⟩ : ∃ j0, j0 = hv % k := ⟨_, rfl⟩
                          rw [← hj0] at ha
                          have HJ0 := hide hj0
                          clear hj0
                          go_wp2_with fail
                          go_loop [31, 29, 30, 32] (fun s j f _ => ∃ d jj : Nat, s = .int .i64 (d : Int) ∧ j = .int .u64 (jj : Int) ∧ f = .bool false ∧ Hid (d ≤ dd ∧ jj = (hv + d) % k)) (fun s _ _ _ => k - (intOf s).toNat)
                          case atStart => exact ⟨0, j0, rfl, rfl, rfl, by omega, HJ0.out⟩
                          case round =>
                            clear HJ0 ha
                            obtain ⟨d, jj, rfl, rfl, rfl, hJ⟩ := hrel
                            have hjl : jj < k := by rw [hJ.out.2]; exact Nat.mod_lt _ (by omega)
                            have hdl : d < k := by have := hJ.out.1; have := HR.out.1; omega
                            obtain ⟨b2, hb2⟩ : ∃ b2, F jj = some b2 := by
                              by_cases e : d = dd
                              · exact ⟨eb, by rw [hJ.out.2, e]; exact HR.out.2.1⟩
                              · cases hx : F jj with
                                | none => exact absurd (by rw [← hJ.out.2]; exact hx) (HR.out.2.2.1 d (by have := hJ.out.1; omega))
                                | some b2 => exact ⟨b2, rfl⟩
                            have HC6 := hide (c6 w4.heap.size (jj * 2) (F jj) W2 (HFN.out.tab.e jj hjl) (fun b hb => HFN.out.tab.v jj b hjl hb))
                            rw [hb2] at HC6
                            unfold pv at HC6
                            simp only [Option.map_some] at HC6
                            have heq := eqp (HFN.out.tab.v jj b2 hjl hb2) HR.out.2.2.2.2
                            have HB2 := hide hb2
                            clear hb2
                            by_cases hbe : b2 = eb
                            · subst hbe
                              have hG := HR.out.2.2.2.1 jj hjl HB2.out
                              have HC7 := hide (c7 w4.heap.size (jj * 2 + 1) (G jj : Int) W2 (HFN.out.tab.h jj hjl))
                              rw [hG] at HC7
                              clear hG
                              go_wp2_with fail
                              refine HC6.out.mono ?_
                              rintro e w3 ⟨rfl, hw3⟩
                              obtain rfl := hw3.symm
                              clear hw3
                              go_wp2_with fail
                              refine HC7.out.mono ?_
                              rintro e w3 ⟨rfl, hw3⟩
                              obtain rfl := hw3.symm
                              clear hw3
                              go_wp2_with fail
                              go_round
                              case rel => exact ⟨q + 1, by omega, by go_num⟩
                              case measure => simp [intOf]; omega
                            · have hbb : (b2 == eb) = false := by simp [hbe]
                              have hdd : d ≠ dd := by
                                intro e
                                have h1 := HB2.out
                                rw [hJ.out.2, e, HR.out.2.1] at h1
                                cases h1
                                exact hbe rfl
                              have HD := hide hdd
                              clear hdd hbe
                              have hwr : IntKind.u64.wrap ((jj : Int) + 1) = (jj : Int) + 1 := by rw [IntKind.wrap_u64]; omega
                              have han : bits .and .u64 ((jj : Int) + 1) ((k : Int) - 1) = (((jj + 1) % k : Nat) : Int) := by
                                have h1 := HP.out.1
                                have h2 := HP.out.2
                                subst h1
                                exact and_mask (jj + 1) p (by omega) (by omega)
                              have hnx : Hid ((jj + 1) % k = (hv + (d + 1)) % k) := by
                                show (jj + 1) % k = (hv + (d + 1)) % k
                                rw [hJ.out.2, Nat.mod_add_mod]; rfl
                              generalize (jj + 1) % k = j2 at han hnx
                              go_wp2_with fail
                              refine HC6.out.mono ?_
                              rintro e w3 ⟨rfl, hw3⟩
                              obtain rfl := hw3.symm
                              clear hw3
                              go_wp2_with fail
                              go_round
                              case rel => exact ⟨d + 1, j2, by go_num, rfl, rfl, by have := hJ.out.1; have := HD.out; omega, hnx.out⟩
                              case measure => simp [intOf]; omega
                        · have hqm : q = m := by omega
                          obtain rfl := hqm.symm
                          have o0 := HOWN.out.o0
                          go_wp2_with fail
                          have HBW := hide (HB.out.trans HFN.out.bl)
                          clear HFN HF4 t0 m0 m1 e1 n1 o0 hqm hlq hq te1 HLV2
                          go_loopw [33] (fun i wz => L7 w (w.heap.size + 1) (w.heap.size + 1 + 1) (w.heap.size + 1 + 1 + 1) size E H (.slice pl m cpl) (.slice ph m cph) (.slice pp size cpp) (.slice pq size cpq) m Lv Hh i wz) (fun i _ => size - (intOf i).toNat)
                          case atStart => exact ⟨0, by omega, rfl, HOWN.out, HBW.out⟩
                          case round =>
                            clear HOWN HBW
                            obtain ⟨q, hq, rfl, hO, hbw⟩ := hrel
                            have HO := hide (And.intro hO hbw)
                            clear hO hbw
                            by_cases hlq : q < size
                            · obtain ⟨gp, rfl, c1⟩ := own_ptr HO.out.1.op rfl hlq
                              obtain ⟨gq, rfl, c2⟩ := own_ptr HO.out.1.oq rfl hlq
                              have o0 := HO.out.1.o0
                              have hdr : ∀ n, Below wr.heap.size wr (wr.drewN n) := fun n => below_drewN wr n
                              have HC6 : Hid (∀ n, Calls Yba.prog 6 #[.pointer (some ⟨w.heap.size + 1, q * 2, none⟩)] (wr.drewN n) fun e w' => e = .returned (pv (E q)) ∧ w' = wr.drewN n) := fun n => c6 (w.heap.size + 1) (q * 2) (E q) (wr.drewN n) ((HO.out.1.tab.below (hdr n)).e q hlq) (fun b hb => (HO.out.1.tab.below (hdr n)).v q b hlq hb)
                              have HC7 : Hid (∀ n, Calls Yba.prog 7 #[.pointer (some ⟨w.heap.size + 1, q * 2 + 1, none⟩)] (wr.drewN n) fun e w' => e = .returned (.int .u64 (H q : Int)) ∧ w' = wr.drewN n) := fun n => c7 (w.heap.size + 1) (q * 2 + 1) (H q : Int) (wr.drewN n) ((HO.out.1.tab.below (hdr n)).h q hlq)
                              have HND : Hid (∀ n, L7 w (w.heap.size + 1) (w.heap.size + 1 + 1) (w.heap.size + 1 + 1 + 1) size E H (.slice pl m cpl) (.slice ph m cph) (.slice (some ⟨gp, 0, none⟩) size cpp) (.slice (some ⟨gq, 0, none⟩) size cpq) m Lv Hh (.int .i64 ((q : Int) + 1)) (wr.drewN n)) := fun n => ⟨q + 1, by omega, by simp, HO.out.1.below (hdr n), HO.out.2.trans ((hdr n).mono HO.out.2.size)⟩
                              cases hEq : E q with
                              | none =>
                                rw [hEq] at c1 HC6
                                unfold pv at c1 HC6
                                simp only [Option.map_none] at c1 HC6
                                have m0 := ne0
                                clear hdr
                                go_wp2_with fail
                                go_quiet (first | (go_at_call 6; exact Calls.quiet_of_same (HC6.out _)) | (go_at_call 7; exact Calls.quiet_of_same (HC7.out _)))
                                go_wp2_with fail
                                go_roundw
                                case rel => exact HND.out _
                                case measure => simp [intOf]; omega
                              | some b =>
                                have hnp : ∀ n, (binOp .neq 36 (.pointer (some ⟨b, 0, none⟩)) (.pointer (some ⟨b, 0, none⟩))).run Yba.prog (wr.drewN n) = .ok (.bool (!(b == b))) (wr.drewN n) := fun n => nep ((HO.out.1.tab.below (hdr n)).v q b hlq hEq) ((HO.out.1.tab.below (hdr n)).v q b hlq hEq)
                                rw [hEq] at c1 HC6
                                unfold pv at c1 HC6
                                simp only [Option.map_some] at c1 HC6
                                clear hdr
                                go_wp2_with fail
                                go_quiet (first | (go_at_call 6; exact Calls.quiet_of_same (HC6.out _)) | (go_at_call 7; exact Calls.quiet_of_same (HC7.out _)))
                                go_wp2_with fail
                                go_roundw
                                case rel => exact HND.out _
                                case measure => simp [intOf]; omega
                            · have hqs : q = size := by omega
                              obtain rfl := hqs.symm
                              go_wp2
                              go_ret
                              exact ⟨rfl, HO.out.2⟩
end Go.Proofs.Ybulkcosc
