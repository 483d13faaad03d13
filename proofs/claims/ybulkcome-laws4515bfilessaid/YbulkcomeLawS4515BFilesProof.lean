import Derived.Test.YbulkcomeRows
import Derived.Test.YbulkcomeBfLaw
import Derived.WalkKit
import Derived.ProofKit
import Derived.OpenShut
import Derived.ShutString
import Derived.Deep.Slices
import Derived.Carry
namespace Go.Proofs.Ybulkcome.lawS4515BFiles
open Go.ChangeShapes Go.WideShapes Go.ChangeAt Go.RowKit
set_option linter.unusedVariables false

theorem own : ownKnob Yba.prog.godebug = none := by kernel_rfl
theorem laidOut : laidOutB Yba.prog = true := by kernel_rfl
theorem cells25 : Yba.prog.cellsOf 25 = 11 := by kernel_rfl
theorem cells23 : Yba.prog.cellsOf 23 = 1 := by kernel_rfl
theorem cells4 : Yba.prog.cellsOf 4 = 1 := by kernel_rfl
theorem cells3 : Yba.prog.cellsOf 3 = 1 := by kernel_rfl
theorem cells5 : Yba.prog.cellsOf 5 = 1 := by kernel_rfl

theorem trod_float {H : Type} {enc : TypeId × Value → H} {P : Program} {w : World} {base : Nat} {sp : Nat → Bool} {held : Bool} {fuel : Nat} {t : TypeId} {k : FloatKind} {cs : List Value} {x : DataW H × List MemPlace}
    (ht : P.underlying t = some (.float k)) (h : DataW.trod enc P w base sp held fuel t cs = some x) : ∃ n, cs = [.float k n] ∧ x = (.lit (.float k n), []) := by
  cases fuel with
  | zero => simp [DataW.trod] at h
  | succ n =>
    unfold DataW.trod at h
    rw [ht] at h
    split at h <;> simp_all
theorem trod_bool {H : Type} {enc : TypeId × Value → H} {P : Program} {w : World} {base : Nat} {sp : Nat → Bool} {held : Bool} {fuel : Nat} {t : TypeId} {cs : List Value} {x : DataW H × List MemPlace}
    (ht : P.underlying t = some .bool) (h : DataW.trod enc P w base sp held fuel t cs = some x) : ∃ b, cs = [.bool b] ∧ x = (.lit (.bool b), []) := by
  cases fuel with
  | zero => simp [DataW.trod] at h
  | succ n =>
    unfold DataW.trod at h
    rw [ht] at h
    split at h <;> simp_all

theorem byte_bounds {n : Int} (h : (Lit.int .u8 n).wf = true) : 0 ≤ n ∧ n < 256 := by
  simp only [Lit.wf, Bool.and_eq_true, decide_eq_true_eq] at h
  have h1 := h.1
  have h2 := h.2
  simp [IntKind.min, IntKind.max, IntKind.bits, IntKind.signed] at h1 h2
  omega

/-- the cells of a ZzS4515BJob -/
theorem dat_of {H : Type} {enc : TypeId × Value → H} {w : World} {base : Nat} {sp : Nat → Bool} {held : Bool} {fuel : Nat} {cs : List Value} {x : DataW H × List MemPlace}
    (h : DataW.trod enc Yba.prog w base sp held fuel 25 cs = some x) : ∃ d hp, (0 : Int) ≤ hp ∧ hp < 256 ∧ cs = (dval d hp).toList := by
  obtain ⟨xs, n, _, _, hl, hlen, hf⟩ := DataW.trod_struct Yba.underlying25 h
  rw [cells25] at hl
  simp at hlen
  match cs, hl with
  | [c0, c1, c2, c3, c4, c5, c6, c7, c8, c9, c10], _ =>
    have f0 := hf 0 { name := "MapHi", type := 23, offset := 0, embedded := false, tag := "", pkgPath := "", byteOffset := 0 } rfl
    simp only [cells23] at f0
    obtain ⟨y0, hy0⟩ : ∃ y, xs[0]? = some y := ⟨xs[0]'(by omega), List.getElem?_eq_getElem (by omega)⟩
    rw [hy0] at f0
    obtain ⟨b0, e0, _⟩ := trod_float Yba.underlying23 f0
    simp at e0
    have f1 := hf 1 { name := "MapLo", type := 23, offset := 1, embedded := false, tag := "", pkgPath := "", byteOffset := 8 } rfl
    simp only [cells23] at f1
    obtain ⟨y1, hy1⟩ : ∃ y, xs[1]? = some y := ⟨xs[1]'(by omega), List.getElem?_eq_getElem (by omega)⟩
    rw [hy1] at f1
    obtain ⟨b1, e1, _⟩ := trod_float Yba.underlying23 f1
    simp at e1
    have f2 := hf 2 { name := "ShipHi", type := 23, offset := 2, embedded := false, tag := "", pkgPath := "", byteOffset := 16 } rfl
    simp only [cells23] at f2
    obtain ⟨y2, hy2⟩ : ∃ y, xs[2]? = some y := ⟨xs[2]'(by omega), List.getElem?_eq_getElem (by omega)⟩
    rw [hy2] at f2
    obtain ⟨b2, e2, _⟩ := trod_float Yba.underlying23 f2
    simp at e2
    have f3 := hf 3 { name := "ShipLo", type := 23, offset := 3, embedded := false, tag := "", pkgPath := "", byteOffset := 24 } rfl
    simp only [cells23] at f3
    obtain ⟨y3, hy3⟩ : ∃ y, xs[3]? = some y := ⟨xs[3]'(by omega), List.getElem?_eq_getElem (by omega)⟩
    rw [hy3] at f3
    obtain ⟨b3, e3, _⟩ := trod_float Yba.underlying23 f3
    simp at e3
    have f4 := hf 4 { name := "At", type := 23, offset := 4, embedded := false, tag := "", pkgPath := "", byteOffset := 32 } rfl
    simp only [cells23] at f4
    obtain ⟨y4, hy4⟩ : ∃ y, xs[4]? = some y := ⟨xs[4]'(by omega), List.getElem?_eq_getElem (by omega)⟩
    rw [hy4] at f4
    obtain ⟨b4, e4, _⟩ := trod_float Yba.underlying23 f4
    simp at e4
    have f5 := hf 5 { name := "KeyHi", type := 23, offset := 5, embedded := false, tag := "", pkgPath := "", byteOffset := 40 } rfl
    simp only [cells23] at f5
    obtain ⟨y5, hy5⟩ : ∃ y, xs[5]? = some y := ⟨xs[5]'(by omega), List.getElem?_eq_getElem (by omega)⟩
    rw [hy5] at f5
    obtain ⟨b5, e5, _⟩ := trod_float Yba.underlying23 f5
    simp at e5
    have f6 := hf 6 { name := "KeyLo", type := 23, offset := 6, embedded := false, tag := "", pkgPath := "", byteOffset := 48 } rfl
    simp only [cells23] at f6
    obtain ⟨y6, hy6⟩ : ∃ y, xs[6]? = some y := ⟨xs[6]'(by omega), List.getElem?_eq_getElem (by omega)⟩
    rw [hy6] at f6
    obtain ⟨b6, e6, _⟩ := trod_float Yba.underlying23 f6
    simp at e6
    have f7 := hf 7 { name := "KeySlack", type := 23, offset := 7, embedded := false, tag := "", pkgPath := "", byteOffset := 56 } rfl
    simp only [cells23] at f7
    obtain ⟨y7, hy7⟩ : ∃ y, xs[7]? = some y := ⟨xs[7]'(by omega), List.getElem?_eq_getElem (by omega)⟩
    rw [hy7] at f7
    obtain ⟨b7, e7, _⟩ := trod_float Yba.underlying23 f7
    simp at e7
    have f8 := hf 8 { name := "Following", type := 4, offset := 8, embedded := false, tag := "", pkgPath := "", byteOffset := 64 } rfl
    simp only [cells4] at f8
    obtain ⟨y8, hy8⟩ : ∃ y, xs[8]? = some y := ⟨xs[8]'(by omega), List.getElem?_eq_getElem (by omega)⟩
    rw [hy8] at f8
    obtain ⟨b8, e8, _⟩ := trod_bool Yba.underlying4 f8
    simp at e8
    have f9 := hf 9 { name := "Seq", type := 3, offset := 9, embedded := false, tag := "", pkgPath := "", byteOffset := 72 } rfl
    simp only [cells3] at f9
    obtain ⟨y9, hy9⟩ : ∃ y, xs[9]? = some y := ⟨xs[9]'(by omega), List.getElem?_eq_getElem (by omega)⟩
    rw [hy9] at f9
    obtain ⟨b9, e9, _, _⟩ := DataW.trod_int Yba.underlying3 f9
    simp at e9
    have f10 := hf 10 { name := "Heap", type := 5, offset := 10, embedded := false, tag := "", pkgPath := "", byteOffset := 80 } rfl
    simp only [cells5] at f10
    obtain ⟨y10, hy10⟩ : ∃ y, xs[10]? = some y := ⟨xs[10]'(by omega), List.getElem?_eq_getElem (by omega)⟩
    rw [hy10] at f10
    obtain ⟨b10, e10, _, hw⟩ := DataW.trod_int Yba.underlying5 f10
    simp at e10
    have hb := byte_bounds hw
    exact ⟨⟨b0, b1, b2, b3, b4, b5, b6, b7, b8, b9⟩, b10, hb.1, hb.2, by simp [dval, e0, e1, e2, e3, e4, e5, e6, e7, e8, e9, e10]⟩

theorem walk (sel : Int) (hs : 0 ≤ sel ∧ sel < 256) (pa : Option Addr) (len cap : Nat) (hm hS : Bool) (dm ds : Dat) (pm ps : Int) (w : World)
    (hpre : len = 0 ∨ ∃ b o, pa = some ⟨b, o, none⟩ ∧ PreAt w b o len) :
    Calls Yba.prog 3 #[.int .u8 sel, .slice pa len cap, .bool hm, .agg (dval dm pm), .bool hS, .agg (dval ds ps)] w fun e w' => e = .returned (.bool true) ∧ Below w.heap.size w w' := by
  by_cases hlen : len ≤ 300
  · exact files_any sel (sel % 4).toNat (by omega) (by omega) hs.1 hs.2 pa len cap hm hS dm ds pm ps w hlen hpre
  · exact files_large sel pa len cap hm hS dm ds pm ps w (by omega)

/-- the rows of pre -/
theorem pre_of {H : Type} {enc : TypeId × Value → H} {w : World} {base : Nat} {sp : Nat → Bool} {held : Bool} {fuel : Nat} {pa : Option Addr} {len cap : Nat} {x : DataW H × List MemPlace}
    (h : DataW.trod enc Yba.prog w base sp held fuel 22 [.slice pa len cap] = some x) : len = 0 ∨ ∃ b o, pa = some ⟨b, o, none⟩ ∧ PreAt w b o len := by
  rcases Go.Deep.open_slice Yba.underlying22 h with ⟨h0, _⟩ | ⟨a, l, c, m, n, D, Pl, h0, _, hl, _, hmm, _, hel⟩
  · simp at h0
    exact Or.inl h0.2.1
  · simp at h0
    obtain ⟨rfl, rfl, rfl⟩ := h0
    by_cases hz : len = 0
    · exact Or.inl hz
    right
    have hm : len ≤ m := by rw [hmm]; split <;> omega
    have hrow : ∀ i, i < len → ∃ d hp, (0 : Int) ≤ hp ∧ hp < 256 ∧ ∀ c, c < 11 → w.cell? ((a.add (i * 11)).add c) = (dval d hp)[c]? := by
      intro i hi
      obtain ⟨cs', hc, ht⟩ := hel i (by omega)
      obtain ⟨d, hp, h1, h2, rfl⟩ := dat_of ht
      rw [cells25] at hc
      refine ⟨d, hp, h1, h2, fun c hc11 => ?_⟩
      have := (World.cells?_some hc).2.2 c hc11
      rw [this]
      simp
    obtain ⟨d0, hp0, _, _, h00⟩ := hrow 0 (by omega)
    obtain ⟨b, off, spot⟩ := a
    have hspot : spot = none := by
      have h1 := h00 0 (by decide)
      have h2 : (dval d0 hp0)[0]? = some (.float .f64 d0.mh) := rfl
      rw [h2] at h1
      simpa [Addr.add] using World.cell?_spot h1
    subst hspot
    refine ⟨b, off, rfl, fun i hi => ?_⟩
    obtain ⟨d, hp, h1, h2, h3⟩ := hrow i hi
    refine ⟨d, hp, h1, h2, fun c hc => ?_⟩
    rw [← h3 c hc, Go.WideShapes.add_plain, Go.WideShapes.add_plain]

set_option maxRecDepth 100000 in
theorem lifted (os : Os) (started : os.Started) (H : Type) (enc : TypeId × Value → H) :
    ReturnsInHanded {} Yba.checked os 3 .any (Rows.lawS4515BFilesSpec.pre6 enc Yba.prog Yba.f3 Rows.lawS4515BFilesRow.domain false) (Rows.lawS4515BFilesSpec.post enc Yba.prog Yba.f3 false true false false) := by
  refine returnsInHanded_of_change (C := Yba.checked) own started (by kernel_rfl) Yba.func3
    (ChangeSpec.witness6 (enc := enc) (C := Yba.checked) false ⟨#[], #[.int .u8 0, .slice none 0 0, .bool false, .agg (dval ⟨0, 0, 0, 0, 0, 0, 0, 0, false, 0⟩ 0), .bool false, .agg (dval ⟨0, 0, 0, 0, 0, 0, 0, 0, false, 0⟩ 0)], []⟩ 8 (by kernel_rfl) (by kernel_rfl) (by kernel_rfl) (by kernel_rfl)) ?_
  intro W base args ds gs before hval0 hW hcnd _
  have hval : ∀ (j : Nat) t v, Yba.f3.params[j]? = some t → args[j]? = some v → Value.okWide Yba.prog W .any base t v := hval0
  have hW' := hW
  obtain ⟨p, q, hA0, hV, rfl, hfz, hnd⟩ := hW
  have hA : DataW.TrodAll enc Yba.prog W 0 (fun _ => true) true Yba.f3.params.toList args.toList ds p := hA0
  rw [Yba.params3] at hA hval
  obtain ⟨v0, vs0, d0, ds0, p0, q0, hargs, rfl, rfl, h0, r0⟩ := trodAll_cons hA
  obtain ⟨v1, vs1, d1, ds1, p1, q1, rfl, rfl, rfl, h1, r1⟩ := trodAll_cons r0
  obtain ⟨v2, vs2, d2, ds2, p2, q2, rfl, rfl, rfl, h2, r2⟩ := trodAll_cons r1
  obtain ⟨v3, vs3, d3, ds3, p3, q3, rfl, rfl, rfl, h3, r3⟩ := trodAll_cons r2
  obtain ⟨v4, vs4, d4, ds4, p4, q4, rfl, rfl, rfl, h4, r4⟩ := trodAll_cons r3
  obtain ⟨v5, vs5, d5, ds5, p5, q5, rfl, rfl, rfl, h5, r5⟩ := trodAll_cons r4
  obtain ⟨rfl, rfl, rfl⟩ := trodAll_nil r5
  obtain rfl : args = #[v0, v1, v2, v3, v4, v5] := by cases args; simp_all
  obtain ⟨rfl, rfl⟩ := trodVars_none hV
  obtain ⟨a0, rfl, _, _, w0⟩ := open_int Yba.underlying5 (hval 0 5 v0 rfl rfl) h0
  obtain ⟨a1, len1, cap1, rfl⟩ := okWide_slice Yba.underlying22 (hval 1 22 v1 rfl rfl)
  obtain ⟨a2, rfl⟩ := okWide_bool Yba.underlying4 (hval 2 4 v2 rfl rfl)
  obtain ⟨c3, rfl, _⟩ := okWide_struct Yba.underlying25 (hval 3 25 v3 rfl rfl)
  obtain ⟨a4, rfl⟩ := okWide_bool Yba.underlying4 (hval 4 4 v4 rfl rfl)
  obtain ⟨c5, rfl, _⟩ := okWide_struct Yba.underlying25 (hval 5 25 v5 rfl rfl)
  have lt0 : ∀ x ∈ p0, x.block < W.heap.size := by obtain ⟨m, hm⟩ := h0; exact DataW.trod_lt m _ _ _ hm
  have lt1 : ∀ x ∈ p1, x.block < W.heap.size := by obtain ⟨m, hm⟩ := h1; exact DataW.trod_lt m _ _ _ hm
  have lt2 : ∀ x ∈ p2, x.block < W.heap.size := by obtain ⟨m, hm⟩ := h2; exact DataW.trod_lt m _ _ _ hm
  have lt3 : ∀ x ∈ p3, x.block < W.heap.size := by obtain ⟨m, hm⟩ := h3; exact DataW.trod_lt m _ _ _ hm
  have lt4 : ∀ x ∈ p4, x.block < W.heap.size := by obtain ⟨m, hm⟩ := h4; exact DataW.trod_lt m _ _ _ hm
  have lt5 : ∀ x ∈ p5, x.block < W.heap.size := by obtain ⟨m, hm⟩ := h5; exact DataW.trod_lt m _ _ _ hm
  have hpre : len1 = 0 ∨ ∃ b o, a1 = some ⟨b, o, none⟩ ∧ PreAt W b o len1 := by
    obtain ⟨m, hm⟩ := h1
    exact pre_of hm
  obtain ⟨e3, x3, _, _, hc3⟩ : ∃ d hp, (0 : Int) ≤ hp ∧ hp < 256 ∧ c3 = dval d hp := by
    obtain ⟨m, hm⟩ := h3
    obtain ⟨d, hp, g1, g2, g3⟩ := dat_of hm
    exact ⟨d, hp, g1, g2, Array.toList_inj.1 g3⟩
  obtain ⟨e5, x5, _, _, hc5⟩ : ∃ d hp, (0 : Int) ≤ hp ∧ hp < 256 ∧ c5 = dval d hp := by
    obtain ⟨m, hm⟩ := h5
    obtain ⟨d, hp, g1, g2, g3⟩ := dat_of hm
    exact ⟨d, hp, g1, g2, Array.toList_inj.1 g3⟩
  subst hc3 hc5
  clear hA0 hval0
  refine (walk a0 (byte_bounds w0) a1 len1 cap1 a2 a4 e3 e5 x3 x5 W hpre).mono fun e W' ⟨he, bel⟩ => ?_
  subst he
  exact ⟨_, rfl, _, _, _, [], _, [], hW', trodAll_mk1 (shut_bool Yba.underlying4 _), (trodAll_cons_mk (Below.trod laidOut (by kernel_rfl) (of_decide_eq_true (by kernel_rfl)) h0 bel lt0) (trodAll_cons_mk (Below.trod laidOut (by kernel_rfl) (of_decide_eq_true (by kernel_rfl)) h1 bel lt1) (trodAll_cons_mk (Below.trod laidOut (by kernel_rfl) (of_decide_eq_true (by kernel_rfl)) h2 bel lt2) (trodAll_cons_mk (Below.trod laidOut (by kernel_rfl) (of_decide_eq_true (by kernel_rfl)) h3 bel lt3) (trodAll_cons_mk (Below.trod laidOut (by kernel_rfl) (of_decide_eq_true (by kernel_rfl)) h4 bel lt4) (trodAll_cons_mk (Below.trod laidOut (by kernel_rfl) (of_decide_eq_true (by kernel_rfl)) h5 bel lt5) trodAll_mk0)))))), rfl, bel.frame _, fun h => by cases h⟩

theorem over : Rows.lawS4515BFilesRow.holds Yba.pinned (OpenSpec.ofChange Rows.lawS4515BFilesSpec) :=
  OpenClaim.holds_of_wide 3 Yba.f3 rfl rfl rfl rfl rfl rfl rfl ⟨rfl, rfl, rfl, rfl, rfl⟩ rfl rfl rfl rfl rfl (by kernel_rfl) Yba.func3 (by kernel_rfl)
    (of_decide_eq_true (by kernel_rfl)) (by unfold Func.isWrapper; first | (rw [if_pos (by decide +kernel)]; kernel_rfl) | (rw [if_neg (by decide +kernel)]; exact ⟨rfl, rfl⟩))
    (fun os started H enc _ => lifted os started H enc)

theorem proved : Rows.LawS4515BFilesSaid := over
end Go.Proofs.Ybulkcome.lawS4515BFiles
