import Derived.Test.YbulkcomeDoorLaid
import Derived.Test.YbulkcomeDoorTie
import Derived.Test.YbulkcomeDoorCards
import Derived.SevenTiedAt
namespace Go.Proofs.YbulkcomeDoor.lawS4515ANodes
open Go.ChangeShapes Go.WideShapes Go.ChangeAt Go.RowKit

set_option maxRecDepth 100000 in
theorem lifted (os : Os) (started : os.Started) (H : Type) (enc : TypeId × Value → H) :
    ReturnsInHanded {} Ybad.checked os 3 .any (fun w args => (Rows.lawS4515ANodesSpec.pre enc Ybad.prog Ybad.f3 [] false w args ∧ laidMetH Ybad.prog laid3 w) ∧ sizedMet enc Ybad.prog Ybad.f3 (OpenSpec.ofChange Rows.lawS4515ANodesSpec) false w args)
      (Rows.lawS4515ANodesSpec.post enc Ybad.prog Ybad.f3 false true false false) := by
  refine returnsInHanded_of_change_and (C := Ybad.checked) (X := fun w _ => laidMetH Ybad.prog laid3 w) (fun _ _ _ hh h => h.of_heap hh) own started (by kernel_rfl) Ybad.func3
    (ChangeSpec.witness_shaped (enc := enc) (C := Ybad.checked) (os := os) (X := fun w _ => laidMetH Ybad.prog laid3 w) false (World.doorLaid Ybad.prog 400 os) #[.int .i32 0, .int .i32 0] 8 rfl (World.shaped_of_RefB (by kernel_rfl) (by kernel_rfl)) (by kernel_rfl) (by kernel_rfl) (by kernel_rfl) (door_met os _)) ?_
  intro W base args ds gs before hval0 hW _ _ hL _
  have hval : ∀ (j : Nat) t v, Ybad.f3.params[j]? = some t → args[j]? = some v → Value.okWide Ybad.prog W .any base t v := hval0
  have hW' := hW
  obtain ⟨p, q, hA0, hV0, rfl, hfz, hnd⟩ := hW
  have hA : DataW.TrodAll enc Ybad.prog W 0 (fun _ => true) true Ybad.f3.params.toList args.toList ds p := hA0
  have hV : DataW.TrodVars enc Ybad.prog W (fun _ => true) [nm 0, nm 1, nm 2] gs q := hV0
  rw [Ybad.params3] at hA hval
  obtain ⟨v0, vs0, d0, ds0, p0, q0, hargs, rfl, rfl, h0, r0⟩ := trodAll_cons hA
  obtain ⟨v1, vs1, d1, ds1, p1, q1, rfl, rfl, rfl, h1, r1⟩ := trodAll_cons r0
  obtain ⟨rfl, rfl, rfl⟩ := trodAll_nil r1
  obtain rfl : args = #[v0, v1] := by cases args; simp_all
  obtain ⟨a0, rfl, rfl, rfl, w0⟩ := open_int Ybad.underlying21 (hval 0 21 v0 rfl rfl) h0
  obtain ⟨a1, rfl, rfl, rfl, w1⟩ := open_int Ybad.underlying21 (hval 1 21 v1 rfl rfl) h1
  have b0 := bounds_i32 w0
  have b1 := bounds_i32 w1
  have hvs := vars_of_laid hL
  have hT := tabs_of_vars hvs
  have h3 := size_of_tabs hT
  clear hA0 hval0
  simp only [List.append_nil] at hW'
  refine (nodes_law a0 a1 b0.1 b0.2 b1.1 b1.2 W hT h3).mono fun e W' ⟨he, hb⟩ => ?_
  subst he
  obtain ⟨e0, e1, e2, rfl⟩ := three_vars hV
  have hk : ∀ sp, DataW.TrodVars enc Ybad.prog W' sp [nm 0, nm 1, nm 2] [e0, e1, e2] q :=
    keep_cons g0 t0 hvs.1 (by omega) (reads0 enc) hb hV fun _ _ hV1 => keep_cons g1 t1 hvs.2.1 (by omega) (reads1 enc) hb hV1 fun _ _ hV2 => keep_cons g2 t2 hvs.2.2 (by omega) (reads2 enc) hb hV2 fun _ _ => keep_nil
  exact ⟨_, rfl, _, _, _, [], [], q, hW', trodAll_cons_mk (shut_bool Ybad.underlying4 _) trodAll_mk0, trodAll_cons_mk (shut_int Ybad.underlying21 w0) (trodAll_cons_mk (shut_int Ybad.underlying21 w1) trodAll_mk0), hk _, hb.frame _, fun h => by cases h⟩

theorem row_holds : Rows.LawS4515ANodesSaid :=
  OpenClaim.holds_of_wide 3 Ybad.f3 rfl rfl rfl rfl rfl rfl rfl ⟨rfl, rfl, rfl, rfl, rfl⟩ rfl rfl rfl rfl rfl (by kernel_rfl) Ybad.func3 (by kernel_rfl)
    (of_decide_eq_true (by kernel_rfl)) (by unfold Func.isWrapper; first | (rw [if_pos (by decide +kernel)]; kernel_rfl) | (rw [if_neg (by decide +kernel)]; exact ⟨rfl, rfl⟩))
    (fun os started H enc _ => lifted os started H enc)

theorem proved : Rows.LawS4515ANodesCardSaid :=
  Claim7.holds_tied_plain_at .later [] [.data, .data, .data] true Rows.lawS4515ANodesCard.stood.harness false
    row_holds (fun _ h => by cases h) (by kernel_rfl) (fun _ h => by cases h) lawS4515ANodes_row_tie rfl ⟨rfl, rfl⟩ (by kernel_rfl) rfl
    (fun f fn hf hfn => by
      obtain rfl : f = 3 := Option.some.inj ((show Ybad.prog.funcNamed Rows.lawS4515ANodesRow.func = some 3 by kernel_rfl).symm.trans hf) |>.symm
      obtain rfl : fn = Ybad.f3 := (Option.some.inj (Ybad.func3.symm.trans hfn)).symm
      exact ⟨by kernel_rfl, fun j t ht => by
        rw [Ybad.params3] at ht
        have hm : t ∈ [21, 21] := by simpa using Array.mem_of_getElem? ht
        have hall : ([21, 21].all fun u => !Ybad.prog.wantsStandIn u) = true := by kernel_rfl
        exact (show Ybad.prog.wantsStandIn t = false by simpa using List.all_eq_true.1 hall t hm)⟩)
    (by kernel_rfl)

end Go.Proofs.YbulkcomeDoor.lawS4515ANodes
