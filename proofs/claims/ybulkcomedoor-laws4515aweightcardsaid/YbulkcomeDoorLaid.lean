import Derived.Test.YbulkcomeDoorNodes
import Derived.ProofKit
import Derived.LaidMore
import Derived.OpenShut
import Derived.Stop.Joined
namespace Go.Proofs.YbulkcomeDoor
open Go.ChangeShapes Go.WideShapes Go.ChangeAt Go.RowKit

theorem own : ownKnob Ybad.prog.godebug = none := by kernel_rfl
theorem cells22 : Ybad.prog.cellsOf 22 = 1 := by kernel_rfl
theorem cells28 : Ybad.prog.cellsOf 28 = 8 := by kernel_rfl
theorem cells30 : Ybad.prog.cellsOf 30 = 4 := by kernel_rfl

/-- the listed variables and their data, as the rows list them -/
def laid3 : List (String × DataW Unit) := Rows.lawS4515ANodesRow.laid
def nm (i : Nat) : String := Rows.lawS4515ANodesSpec.vars.getD i default
theorem laid3_weight : Rows.lawS4515AWeightRow.laid = laid3 := rfl

theorem g0 : Ybad.prog.globalNamed (nm 0) = some 0 := by kernel_rfl
theorem g1 : Ybad.prog.globalNamed (nm 1) = some 1 := by kernel_rfl
theorem g2 : Ybad.prog.globalNamed (nm 2) = some 2 := by kernel_rfl
theorem t0 : (Ybad.prog.globals[0]?).map (·.type) = some 28 := by kernel_rfl
theorem t1 : (Ybad.prog.globals[1]?).map (·.type) = some 28 := by kernel_rfl
theorem t2 : (Ybad.prog.globals[2]?).map (·.type) = some 30 := by kernel_rfl

def fl (zs : List Nat) : List Value := zs.map fun z => .float .f64 z
def flD {H : Type} (zs : List Nat) : DataW H := .agg (zs.map fun z => .lit (.float .f64 z))

theorem trod_float {H : Type} {enc : TypeId × Value → H} {P : Program} {w : World} {base : Nat} {sp : Nat → Bool} {held : Bool} {fuel : Nat} {t : TypeId} {k : FloatKind} {cs : List Value} {x : DataW H × List MemPlace}
    (ht : P.underlying t = some (.float k)) (h : DataW.trod enc P w base sp held fuel t cs = some x) : ∃ n, cs = [.float k n] ∧ x = (.lit (.float k n), []) := by
  cases fuel with
  | zero => simp [DataW.trod] at h
  | succ n =>
    unfold DataW.trod at h
    rw [ht] at h
    split at h <;> simp_all

theorem cells_of_floats {H : Type} {enc : TypeId × Value → H} {P : Program} {w : World} {base : Nat} {sp : Nat → Bool} {held : Bool} {fuel : Nat} {t e : TypeId} {n : Nat} {cs : List Value} {zs : List Nat} {p : List MemPlace}
    (ht : P.underlying t = some (.array n e)) (he : P.underlying e = some (.float .f64)) (hce : P.cellsOf e = 1) (hct : P.cellsOf t = n)
    (h : DataW.trod enc P w base sp held fuel t cs = some (flD zs, p)) : cs = fl zs := by
  obtain ⟨xs, m, _, hx, hl, hn, hel⟩ := DataW.trod_array ht h
  have hx1 : zs.map (fun z => (DataW.lit (.float .f64 z) : DataW H)) = xs.map (·.1) := by
    have := congrArg Prod.fst hx
    simpa [flD] using this
  have hz : zs.length = n := by
    have := congrArg List.length hx1
    simp at this
    omega
  rw [hct] at hl
  apply List.ext_getElem?
  intro i
  by_cases hi : i < n
  · have hi2 := hel i hi
    rw [hce, Nat.mul_one] at hi2
    obtain ⟨y, hy⟩ : ∃ y, xs[i]? = some y := ⟨xs[i]'(by omega), List.getElem?_eq_getElem (by omega)⟩
    rw [hy] at hi2
    obtain ⟨b, e1, rfl⟩ := trod_float he hi2
    have h1 : cs[i]? = some (.float .f64 b) := by
      have := congrArg (·[0]?) e1
      simpa [List.getElem?_take, List.getElem?_drop] using this
    have h2 := congrArg (·[i]?) hx1
    simp only [List.getElem?_map, hy, Option.map_some, Option.map_eq_some_iff] at h2
    obtain ⟨z, hz1, hz2⟩ := h2
    cases hz2
    simp [fl, h1, hz1]
  · rw [List.getElem?_eq_none (by omega), List.getElem?_eq_none (by simp [fl]; omega)]

/-- WHAT THE CONDITION GIVES -/
theorem vars_of_laid {W : World} (h : laidMetH Ybad.prog laid3 W) : W.var? Ybad.prog (nm 0) = some (fl ndT).toArray ∧ W.var? Ybad.prog (nm 1) = some (fl wtT).toArray ∧ W.var? Ybad.prog (nm 2) = some (fl gtT).toArray := by
  rw [MakeChecks.laidMetH_plain _ _ _ (by kernel_rfl)] at h
  obtain ⟨ps, ⟨a0, b0, cs0, f0, p0, q0, hg0, ht0, hv0, hd0, ⟨a1, b1, cs1, f1, p1, q1, hg1, ht1, hv1, hd1, ⟨a2, b2, cs2, f2, p2, q2, hg2, ht2, hv2, hd2, _, _⟩, _⟩, _⟩, _, _⟩ := h
  obtain rfl := Option.some.inj (g0.symm.trans hg0)
  obtain rfl := Option.some.inj (g1.symm.trans hg1)
  obtain rfl := Option.some.inj (g2.symm.trans hg2)
  obtain rfl := Option.some.inj (t0.symm.trans ht0)
  obtain rfl := Option.some.inj (t1.symm.trans ht1)
  obtain rfl := Option.some.inj (t2.symm.trans ht2)
  have c0 := cells_of_floats (zs := ndT) Ybad.underlying28 Ybad.underlying22 cells22 cells28 hd0
  have c1 := cells_of_floats (zs := wtT) Ybad.underlying28 Ybad.underlying22 cells22 cells28 hd1
  have c2 := cells_of_floats (zs := gtT) Ybad.underlying30 Ybad.underlying22 cells22 cells30 hd2
  refine ⟨?_, ?_, ?_⟩
  · rw [← c0]; exact hv0
  · rw [← c1]; exact hv1
  · rw [← c2]; exact hv2

theorem fl_get (zs : List Nat) (i : Nat) (h : i < zs.length) : (fl zs).toArray[i]? = some (.float .f64 (zs.getD i 0)) := by
  simp [fl, h]

theorem tabs_of_vars {W : World} (h : W.var? Ybad.prog (nm 0) = some (fl ndT).toArray ∧ W.var? Ybad.prog (nm 1) = some (fl wtT).toArray ∧ W.var? Ybad.prog (nm 2) = some (fl gtT).toArray) : Tabs nd wt gt W where
  c0 i hi := by rw [World.var?_cell g0 h.1 i]; exact fl_get _ i hi
  c1 i hi := by rw [World.var?_cell g1 h.2.1 i]; exact fl_get _ i hi
  c2 i hi := by rw [World.var?_cell g2 h.2.2 i]; exact fl_get _ i hi

theorem size_of_tabs {W : World} (h : Tabs nd wt gt W) : 3 ≤ W.heap.size := by
  have := h.c2 0 (by decide)
  unfold World.cell? at this
  simp only at this
  by_cases l : 2 < W.heap.size
  · exact l
  · rw [Array.getElem?_eq_none (by omega)] at this
    cases this

theorem door_met (os : Os) (args : Array Value) : laidMetH Ybad.prog laid3 ((World.doorLaid Ybad.prog 400 os).forCall (fun _ _ => 0) ⟨#[], args, []⟩).memory :=
  laidMetH_of_parts3 (fuel := 8) (laidMet_of_run' 8 (by kernel_rfl) (by kernel_rfl)) (by kernel_rfl) (by kernel_rfl)

theorem reads0 {H : Type} (enc : TypeId × Value → H) (W : World) (sp : Nat → Bool) : DataW.trod enc Ybad.prog W 0 sp true 3 28 (fl ndT) = some (flD ndT, []) := by kernel_rfl
theorem reads1 {H : Type} (enc : TypeId × Value → H) (W : World) (sp : Nat → Bool) : DataW.trod enc Ybad.prog W 0 sp true 3 28 (fl wtT) = some (flD wtT, []) := by kernel_rfl
theorem reads2 {H : Type} (enc : TypeId × Value → H) (W : World) (sp : Nat → Bool) : DataW.trod enc Ybad.prog W 0 sp true 3 30 (fl gtT) = some (flD gtT, []) := by kernel_rfl

theorem keep_cons {H : Type} {enc : TypeId × Value → H} {W W' : World} {n : String} {ns : List String} {gs : List (DataW H)} {q : List MemPlace} {g fuel : Nat} {t : TypeId} {zs : List Nat}
    (hg : Ybad.prog.globalNamed n = some g) (ht : (Ybad.prog.globals[g]?).map (·.type) = some t) (hv : W.var? Ybad.prog n = some (fl zs).toArray) (hgB : g < W.heap.size)
    (hr : ∀ (W : World) (sp : Nat → Bool), DataW.trod enc Ybad.prog W 0 sp true fuel t (fl zs) = some (flD zs, [])) (hb : Below W.heap.size W W')
    (hV : DataW.TrodVars enc Ybad.prog W (fun _ => true) (n :: ns) gs q)
    (k : ∀ gs' q', DataW.TrodVars enc Ybad.prog W (fun _ => true) ns gs' q' → ∀ sp, DataW.TrodVars enc Ybad.prog W' sp ns gs' q') (sp : Nat → Bool) :
    DataW.TrodVars enc Ybad.prog W' sp (n :: ns) gs q := by
  cases gs with
  | nil => exact hV.elim
  | cons d ds =>
    obtain ⟨g', t', cs, f', p', q', k1, k2, k3, k4, k5, rfl⟩ := hV
    obtain rfl := Option.some.inj (hg.symm.trans k1)
    obtain rfl := Option.some.inj (ht.symm.trans k2)
    obtain rfl := Option.some.inj (hv.symm.trans k3)
    obtain ⟨rfl, rfl⟩ := DataW.Trod.unique (v := .agg (fl zs).toArray) ⟨f', k4⟩ ⟨fuel, hr W _⟩
    exact ⟨g, t, _, fuel, [], q', hg, ht, var?_below hb hg hgB hv, hr W' sp, k _ _ k5 sp, rfl⟩

theorem keep_nil {H : Type} {enc : TypeId × Value → H} {W W' : World} {gs : List (DataW H)} {q : List MemPlace}
    (hV : DataW.TrodVars enc Ybad.prog W (fun _ => true) [] gs q) (sp : Nat → Bool) : DataW.TrodVars enc Ybad.prog W' sp [] gs q := by
  cases gs with
  | nil => exact hV
  | cons d ds => exact hV.elim

theorem three_vars {H : Type} {enc : TypeId × Value → H} {P : Program} {W : World} {sp : Nat → Bool} {n0 n1 n2 : String} {gs : List (DataW H)} {q : List MemPlace}
    (hV : DataW.TrodVars enc P W sp [n0, n1, n2] gs q) : ∃ d0 d1 d2, gs = [d0, d1, d2] := by
  match gs, hV with
  | [], h => exact h.elim
  | [_], ⟨_, _, _, _, _, _, _, _, _, _, h, _⟩ => exact h.elim
  | [_, _], ⟨_, _, _, _, _, _, _, _, _, _, ⟨_, _, _, _, _, _, _, _, _, _, h, _⟩, _⟩ => exact h.elim
  | [a, b, c], _ => exact ⟨a, b, c, rfl⟩
  | _ :: _ :: _ :: _ :: _, ⟨_, _, _, _, _, _, _, _, _, _, ⟨_, _, _, _, _, _, _, _, _, _, ⟨_, _, _, _, _, _, _, _, _, _, h, _⟩, _⟩, _⟩ => exact h.elim

end Go.Proofs.YbulkcomeDoor
