import Derived.Test.YbulkcomeDoorLaid
import Derived.Test.YbulkcomeDoorWeightLaw
import Derived.Test.YbulkcomeDoorTie
import Derived.Test.YbulkcomeDoorCards
import Derived.SevenTiedAt
namespace Go.Proofs.YbulkcomeDoor.lawS4515AWeight
open Go.ChangeShapes Go.WideShapes Go.ChangeAt Go.RowKit

set_option maxRecDepth 100000 in
theorem lifted (os : Os) (started : os.Started) (H : Type) (enc : TypeId × Value → H) :
    ReturnsInHanded {} Ybad.checked os 4 .any (fun w args => (Rows.lawS4515AWeightSpec.pre enc Ybad.prog Ybad.f4 [] false w args ∧ laidMetH Ybad.prog laid3 w) ∧ sizedMet enc Ybad.prog Ybad.f4 (OpenSpec.ofChange Rows.lawS4515AWeightSpec) false w args)
      (Rows.lawS4515AWeightSpec.post enc Ybad.prog Ybad.f4 false true false false) := by
  refine returnsInHanded_of_change_and (C := Ybad.checked) (X := fun w _ => laidMetH Ybad.prog laid3 w) (fun _ _ _ hh h => h.of_heap hh) own started (by kernel_rfl) Ybad.func4
    (ChangeSpec.witness_shaped (enc := enc) (C := Ybad.checked) (os := os) (X := fun w _ => laidMetH Ybad.prog laid3 w) false (World.doorLaid Ybad.prog 400 os) #[.int .i32 0, .int .i32 0, .int .u8 0, .int .i32 0] 8 rfl (World.shaped_of_RefB (by kernel_rfl) (by kernel_rfl)) (by kernel_rfl) (by kernel_rfl) (by kernel_rfl) (door_met os _)) ?_
  intro W base args ds gs before hval0 hW _ _ hL _
  have hval : ∀ (j : Nat) t v, Ybad.f4.params[j]? = some t → args[j]? = some v → Value.okWide Ybad.prog W .any base t v := hval0
  have hW' := hW
  obtain ⟨p, q, hA0, hV0, rfl, hfz, hnd⟩ := hW
  have hA : DataW.TrodAll enc Ybad.prog W 0 (fun _ => true) true Ybad.f4.params.toList args.toList ds p := hA0
  have hV : DataW.TrodVars enc Ybad.prog W (fun _ => true) [nm 1, nm 2, nm 0] gs q := hV0
  rw [Ybad.params4] at hA hval
  obtain ⟨v0, vs0, d0, ds0, p0, q0, hargs, rfl, rfl, h0, r0⟩ := trodAll_cons hA
  obtain ⟨v1, vs1, d1, ds1, p1, q1, rfl, rfl, rfl, h1, r1⟩ := trodAll_cons r0
  obtain ⟨v2, vs2, d2, ds2, p2, q2, rfl, rfl, rfl, h2, r2⟩ := trodAll_cons r1
  obtain ⟨v3, vs3, d3, ds3, p3, q3, rfl, rfl, rfl, h3, r3⟩ := trodAll_cons r2
  obtain ⟨rfl, rfl, rfl⟩ := trodAll_nil r3
  obtain rfl : args = #[v0, v1, v2, v3] := by cases args; simp_all
  obtain ⟨a0, rfl, rfl, rfl, w0⟩ := open_int Ybad.underlying21 (hval 0 21 v0 rfl rfl) h0
  obtain ⟨a1, rfl, rfl, rfl, w1⟩ := open_int Ybad.underlying21 (hval 1 21 v1 rfl rfl) h1
  obtain ⟨a2, rfl, rfl, rfl, w2⟩ := open_int Ybad.underlying5 (hval 2 5 v2 rfl rfl) h2
  obtain ⟨a3, rfl, rfl, rfl, w3⟩ := open_int Ybad.underlying21 (hval 3 21 v3 rfl rfl) h3
  have b0 := bounds_i32 w0
  have b2 := bounds_u8 w2
  have b3 := bounds_i32 w3
  have b1 := bounds_i32 w1
  have hvs := vars_of_laid hL
  have hT := tabs_of_vars hvs
  have hs3 := size_of_tabs hT
  clear hA0 hval0
  simp only [List.append_nil] at hW'
  refine (weight_law a0 a1 a3 b0.1 b0.2 b1.1 b1.2 b3.1 b3.2 a2 b2.1 b2.2 W hT hs3).mono fun e W' ⟨he, hb⟩ => ?_
  subst he
  obtain ⟨e0, e1, e2, rfl⟩ := three_vars hV
  have hk : ∀ sp, DataW.TrodVars enc Ybad.prog W' sp [nm 1, nm 2, nm 0] [e0, e1, e2] q :=
    keep_cons g1 t1 hvs.2.1 (by omega) (reads1 enc) hb hV fun _ _ hV1 => keep_cons g2 t2 hvs.2.2 (by omega) (reads2 enc) hb hV1 fun _ _ hV2 => keep_cons g0 t0 hvs.1 (by omega) (reads0 enc) hb hV2 fun _ _ => keep_nil
  exact ⟨_, rfl, _, _, _, [], [], q, hW', trodAll_cons_mk (shut_bool Ybad.underlying4 _) trodAll_mk0, trodAll_cons_mk (shut_int Ybad.underlying21 w0) (trodAll_cons_mk (shut_int Ybad.underlying21 w1) (trodAll_cons_mk (shut_int Ybad.underlying5 w2) (trodAll_cons_mk (shut_int Ybad.underlying21 w3) trodAll_mk0))), hk _, hb.frame _, fun h => by cases h⟩

theorem row_holds : Rows.LawS4515AWeightSaid :=
  OpenClaim.holds_of_wide 4 Ybad.f4 rfl rfl rfl rfl rfl rfl rfl ⟨rfl, rfl, rfl, rfl, rfl⟩ rfl rfl rfl rfl rfl (by kernel_rfl) Ybad.func4 (by kernel_rfl)
    (of_decide_eq_true (by kernel_rfl)) (by unfold Func.isWrapper; first | (rw [if_pos (by decide +kernel)]; kernel_rfl) | (rw [if_neg (by decide +kernel)]; exact ⟨rfl, rfl⟩))
    (fun os started H enc _ => lifted os started H enc)

theorem proved : Rows.LawS4515AWeightCardSaid :=
  Claim7.holds_tied_plain_at .later [] [.data, .data, .data] true Rows.lawS4515AWeightCard.stood.harness false
    row_holds (fun _ h => by cases h) (by kernel_rfl) (fun _ h => by cases h) lawS4515AWeight_row_tie rfl ⟨rfl, rfl⟩ (by kernel_rfl) rfl
    (fun f fn hf hfn => by
      obtain rfl : f = 4 := Option.some.inj ((show Ybad.prog.funcNamed Rows.lawS4515AWeightRow.func = some 4 by kernel_rfl).symm.trans hf) |>.symm
      obtain rfl : fn = Ybad.f4 := (Option.some.inj (Ybad.func4.symm.trans hfn)).symm
      exact ⟨by kernel_rfl, fun j t ht => by
        rw [Ybad.params4] at ht
        have hm : t ∈ [21, 21, 5, 21] := by simpa using Array.mem_of_getElem? ht
        have hall : ([21, 21, 5, 21].all fun u => !Ybad.prog.wantsStandIn u) = true := by kernel_rfl
        exact (show Ybad.prog.wantsStandIn t = false by simpa using List.all_eq_true.1 hall t hm)⟩)
    (by kernel_rfl)

end Go.Proofs.YbulkcomeDoor.lawS4515AWeight
