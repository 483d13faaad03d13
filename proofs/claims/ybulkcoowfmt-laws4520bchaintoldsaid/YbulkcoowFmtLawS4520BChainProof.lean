import Derived.Test.YbulkcoowFmtCards
import Derived.Test.YbulkcoowFmtLaw
import Derived.WalkKit
import Derived.ProofKit
import Derived.Deep.Slices
import Derived.Carry
import Derived.Stop.JoinedAt
import Derived.Stop.JoinedTold
import Derived.SevenToldRow
namespace Go.Proofs.YbulkcoowFmt.lawS4520BChain
open Go.ChangeShapes Go.WideShapes Go.ChangeAt Go.RowKit Go.Kit
open Go.Extern.Stop Go.Stop Go.Extern
set_option linter.unusedVariables false

theorem own : ownKnob Ybaf.prog.godebug = none := by kernel_rfl
theorem laidOut : laidOutB Ybaf.prog = true := by kernel_rfl
theorem cells26 : Ybaf.prog.cellsOf 26 = 2 := by kernel_rfl
theorem cells5 : Ybaf.prog.cellsOf 5 = 1 := by kernel_rfl
theorem cells2 : Ybaf.prog.cellsOf 2 = 1 := by kernel_rfl

theorem byte_bounds {n : Int} (h : (Lit.int .u8 n).wf = true) : 0 ≤ n ∧ n < 256 := by
  simp only [Lit.wf, Bool.and_eq_true, decide_eq_true_eq] at h
  have h1 := h.1
  have h2 := h.2
  simp [IntKind.min, IntKind.max, IntKind.bits, IntKind.signed] at h1 h2
  omega

theorem i64_bounds {n : Int} (h : (Lit.int .i64 n).wf = true) : R n := by
  simp only [Lit.wf, Bool.and_eq_true, decide_eq_true_eq] at h
  have h1 := h.1
  have h2 := h.2
  simp [IntKind.min, IntKind.max, IntKind.bits, IntKind.signed] at h1 h2
  unfold R
  omega

set_option maxRecDepth 100000 in
/-- the cells of a leaf -/
theorem leaf_of {H : Type} {enc : TypeId × Value → H} {w : World} {base : Nat} {sp : Nat → Bool} {held : Bool} {fuel : Nat} {cs : List Value} {x : DataW H × List MemPlace}
    (h : DataW.trod enc Ybaf.prog w base sp held fuel 26 cs = some x) : ∃ k v, (0 : Int) ≤ k ∧ k < 256 ∧ R v ∧ cs = [.int .u8 k, .int .i64 v] := by
  obtain ⟨xs, n, _, _, hl, hlen, hf⟩ := DataW.trod_struct Ybaf.underlying26 h
  rw [cells26] at hl
  simp at hlen
  match cs, hl with
  | [c0, c1], _ =>
    have f0 := hf 0 { name := "Kind", type := 5, offset := 0, embedded := false, tag := "", pkgPath := "", byteOffset := 0 } rfl
    simp only [cells5] at f0
    obtain ⟨y0, hy0⟩ : ∃ y, xs[0]? = some y := ⟨xs[0]'(by omega), List.getElem?_eq_getElem (by omega)⟩
    rw [hy0] at f0
    obtain ⟨b0, e0, _, hw0⟩ := DataW.trod_int Ybaf.underlying5 f0
    simp at e0
    have f1 := hf 1 { name := "V", type := 2, offset := 1, embedded := false, tag := "", pkgPath := "", byteOffset := 8 } rfl
    simp only [cells2] at f1
    obtain ⟨y1, hy1⟩ : ∃ y, xs[1]? = some y := ⟨xs[1]'(by omega), List.getElem?_eq_getElem (by omega)⟩
    rw [hy1] at f1
    obtain ⟨b1, e1, _, hw1⟩ := DataW.trod_int Ybaf.underlying2 f1
    simp at e1
    have hb := byte_bounds hw0
    exact ⟨b0, b1, hb.1, hb.2, i64_bounds hw1, by simp [e0, e1]⟩

/-- the number in a cell -/
def iOf (w : World) (a : Addr) : Int := match w.cell? a with
  | some (.int _ k) => k
  | _ => 0
theorem iOf_eq {w : World} {a : Addr} {kd : IntKind} {k : Int} (h : w.cell? a = some (.int kd k)) : iOf w a = k := by simp [iOf, h]

/-- the leaves -/
theorem leaves_of {H : Type} {enc : TypeId × Value → H} {w : World} {base : Nat} {sp : Nat → Bool} {held : Bool} {fuel : Nat} {pa : Option Addr} {len cap : Nat} {x : DataW H × List MemPlace}
    (h : DataW.trod enc Ybaf.prog w base sp held fuel 22 [.slice pa len cap] = some x) : len = 0 ∨ ∃ b o Kd V, pa = some ⟨b, o, none⟩ ∧ LeafAt w b o len Kd V := by
  rcases Go.Deep.open_slice Ybaf.underlying22 h with ⟨h0, _⟩ | ⟨a, l, c, m, n, D, Pl, h0, _, hl, _, hmm, _, hel⟩
  · simp at h0
    exact Or.inl h0.2.1
  · simp at h0
    obtain ⟨rfl, rfl, rfl⟩ := h0
    by_cases hz : len = 0
    · exact Or.inl hz
    right
    have hm : len ≤ m := by rw [hmm]; split <;> omega
    have hrow : ∀ i, i < len → ∃ k v, (0 : Int) ≤ k ∧ k < 256 ∧ R v ∧ w.cell? ((a.add (i * 2)).add 0) = some (.int .u8 k) ∧ w.cell? ((a.add (i * 2)).add 1) = some (.int .i64 v) := by
      intro i hi
      obtain ⟨cs', hc, ht⟩ := hel i (by omega)
      obtain ⟨k, v, h1, h2, h3, rfl⟩ := leaf_of ht
      rw [cells26] at hc
      refine ⟨k, v, h1, h2, h3, ?_, ?_⟩
      · rw [(World.cells?_some hc).2.2 0 (by decide)]; rfl
      · rw [(World.cells?_some hc).2.2 1 (by decide)]; rfl
    obtain ⟨b, off, spot⟩ := a
    have hspot : spot = none := by
      obtain ⟨_, _, _, _, _, h1, _⟩ := hrow 0 (by omega)
      simpa [Addr.add] using World.cell?_spot h1
    subst hspot
    refine ⟨b, off, fun i => iOf w ⟨b, off + i * 2, none⟩, fun i => iOf w ⟨b, off + i * 2 + 1, none⟩, rfl, fun i hi => ?_⟩
    obtain ⟨k, v, h1, h2, h3, h4, h5⟩ := hrow i hi
    rw [Go.WideShapes.add_plain, Go.WideShapes.add_plain] at h4 h5
    have e4 : iOf w ⟨b, off + i * 2, none⟩ = k := iOf_eq h4
    have e5 : iOf w ⟨b, off + i * 2 + 1, none⟩ = v := iOf_eq h5
    simp only [e4, e5]
    exact ⟨h4, h5, h1, h2, h3⟩

/-- the operators' choices -/
theorem sel_of {H : Type} {enc : TypeId × Value → H} {w : World} {base : Nat} {sp : Nat → Bool} {held : Bool} {fuel : Nat} {pa : Option Addr} {len cap : Nat} {x : DataW H × List MemPlace}
    (h : DataW.trod enc Ybaf.prog w base sp held fuel 23 [.slice pa len cap] = some x) : ∃ S : Nat → Int, len = 0 ∨ ∃ b o, pa = some ⟨b, o, none⟩ ∧ SelAt w b o len S := by
  rcases Go.Deep.open_slice Ybaf.underlying23 h with ⟨h0, _⟩ | ⟨a, l, c, m, n, D, Pl, h0, _, hl, _, hmm, _, hel⟩
  · simp at h0
    exact ⟨fun _ => 0, Or.inl h0.2.1⟩
  · simp at h0
    obtain ⟨rfl, rfl, rfl⟩ := h0
    by_cases hz : len = 0
    · exact ⟨fun _ => 0, Or.inl hz⟩
    have hm : len ≤ m := by rw [hmm]; split <;> omega
    have hrow : ∀ i, i < len → ∃ p : Int, (0 : Int) ≤ p ∧ p < 256 ∧ w.cell? ((a.add (i * 1)).add 0) = some (.int .u8 p) := by
      intro i hi
      obtain ⟨cs', hc, ht⟩ := hel i (by omega)
      obtain ⟨b0, rfl, _, hw0⟩ := DataW.trod_int Ybaf.underlying5 ht
      have hb := byte_bounds hw0
      rw [cells5] at hc
      refine ⟨b0, hb.1, hb.2, ?_⟩
      rw [(World.cells?_some hc).2.2 0 (by decide)]; rfl
    obtain ⟨b, off, spot⟩ := a
    have hspot : spot = none := by
      obtain ⟨_, _, _, h1⟩ := hrow 0 (by omega)
      simpa [Addr.add] using World.cell?_spot h1
    subst hspot
    refine ⟨fun i => iOf w ⟨b, off + i, none⟩, Or.inr ⟨b, off, rfl, fun i hi => ?_⟩⟩
    obtain ⟨p, h1, h2, h3⟩ := hrow i hi
    rw [Go.WideShapes.add_plain, Go.WideShapes.add_plain, Nat.mul_one] at h3
    have e3 : iOf w ⟨b, off + i, none⟩ = p := iOf_eq h3
    simp only [e3]
    exact ⟨h3, h1, h2⟩

theorem walk (pa pa2 : Option Addr) (n ac n2 c2 : Nat) (S : Nat → Int) (w : World) (h1 : n = 0 ∨ ∃ b o Kd V, pa = some ⟨b, o, none⟩ ∧ LeafAt w b o n Kd V) (h2 : n2 = 0 ∨ ∃ b o, pa2 = some ⟨b, o, none⟩ ∧ SelAt w b o n2 S) :
    Calls Ybaf.prog 3 #[.slice pa n ac, .slice pa2 n2 c2] w fun e w' => e = .returned (.bool true) ∧ Below w.heap.size w w' := by
  by_cases hn : n = 0 ∨ 1024 < n
  · refine (law_short pa pa2 n ac n2 c2 w hn).mono ?_
    rintro e w' ⟨rfl, rfl⟩
    exact ⟨rfl, Below.refl _ _⟩
  · rcases h1 with h1 | ⟨b, o, Kd, V, rfl, hl⟩
    · exact absurd (Or.inl h1) hn
    · exact law_any b o n ac n2 c2 pa2 Kd V S w (by omega) (by omega) hl h2

set_option maxRecDepth 100000 in
theorem lifted (os : Os) (started : os.Started) (H : Type) (enc : TypeId × Value → H) :
    ReturnsInTold none {} Ybaf.checked os 3 .any Input.okWide ((OpenSpec.ofChange Rows.lawS4520BChainSpec).preRow enc Ybaf.prog Ybaf.f3 [] false []) (fun F => ((OpenSpec.ofChange Rows.lawS4520BChainSpec).at F).post enc Ybaf.prog Ybaf.f3 false true false false) (aloneAtReturn Ybaf.prog) nothingAlways := by
  refine returnsInTold_of_row (C := Ybaf.checked) (s := OpenSpec.ofChange Rows.lawS4520BChainSpec) (by kernel_rfl) own started (by kernel_rfl) Ybaf.func3
    (OpenSpec.witness_stopped (enc := enc) (C := Ybaf.checked) false ⟨#[], #[.slice none 0 0, .slice none 0 0], []⟩ 8 (by kernel_rfl) (by kernel_rfl) (by kernel_rfl) (by kernel_rfl)) ?_
  intro F W base args ds gs before _ hF hval0 hW _ _ _ _ _
  have hval : ∀ (j : Nat) t v, Ybaf.f3.params[j]? = some t → args[j]? = some v → Value.okWide Ybaf.prog W .any base t v := hval0
  have hW' := hW
  obtain ⟨p, q, hA0, hV, rfl, hfz, hnd⟩ := hW
  have hA : DataW.TrodAll enc Ybaf.prog W 0 (fun _ => true) true Ybaf.f3.params.toList args.toList ds p := hA0
  rw [Ybaf.params3] at hA hval
  obtain ⟨v0, vs0, d0, ds0, p0, q0, hargs, rfl, rfl, h0, r0⟩ := trodAll_cons hA
  obtain ⟨v1, vs1, d1, ds1, p1, q1, rfl, rfl, rfl, h1, r1⟩ := trodAll_cons r0
  obtain ⟨rfl, rfl, rfl⟩ := trodAll_nil r1
  obtain rfl : args = #[v0, v1] := by cases args; simp_all
  obtain ⟨rfl, rfl⟩ := trodVars_none hV
  obtain ⟨a0, len0, cap0, rfl⟩ := okWide_slice Ybaf.underlying22 (hval 0 22 v0 rfl rfl)
  obtain ⟨a1, len1, cap1, rfl⟩ := okWide_slice Ybaf.underlying23 (hval 1 23 v1 rfl rfl)
  have lt0 : ∀ x ∈ p0, x.block < W.heap.size := by obtain ⟨m, hm⟩ := h0; exact DataW.trod_lt m _ _ _ hm
  have lt1 : ∀ x ∈ p1, x.block < W.heap.size := by obtain ⟨m, hm⟩ := h1; exact DataW.trod_lt m _ _ _ hm
  have hl : len0 = 0 ∨ ∃ b o Kd V, a0 = some ⟨b, o, none⟩ ∧ LeafAt W b o len0 Kd V := by
    obtain ⟨m, hm⟩ := h0
    exact leaves_of hm
  obtain ⟨S, hs⟩ : ∃ S : Nat → Int, len1 = 0 ∨ ∃ b o, a1 = some ⟨b, o, none⟩ ∧ SelAt W b o len1 S := by
    obtain ⟨m, hm⟩ := h1
    exact sel_of hm
  clear hA0 hval0
  refine (walk a0 a1 len0 cap0 len1 cap1 S W hl hs).mono fun e W' ⟨he, bel⟩ => ?_
  subst he
  exact ⟨_, rfl, _, _, _, [], _, [], hW', trodAll_mk1 (shut_bool Ybaf.underlying4 _), (trodAll_mk2 (Below.trod laidOut (by kernel_rfl) (of_decide_eq_true (by kernel_rfl)) h0 bel lt0) (Below.trod laidOut (by kernel_rfl) (of_decide_eq_true (by kernel_rfl)) h1 bel lt1)), rfl, bel.frame _, fun h => by cases h⟩

theorem stops : Ybaf.pinned.checked.prog.stops = Rows.lawS4520BChainRow.stops := by kernel_rfl
theorem stopKnobs : Ybaf.pinned.checked.prog.stopKnobs = [] := by kernel_rfl
theorem quiet (os : Os) : Stop.quiet Ybaf.pinned.checked.prog os := by
  intro k hk
  rw [stopKnobs] at hk
  cases hk

theorem proved : Rows.LawS4520BChainToldSaid :=
  Claim7.holds_of_told_any 3 Ybaf.f3 _ [] [] _ _ _ (by kernel_rfl) rfl rfl rfl laidOut (by kernel_rfl) rfl ⟨rfl, rfl, rfl, rfl, rfl, rfl, rfl⟩ rfl rfl (by kernel_rfl) (by kernel_rfl) Ybaf.func3 (by kernel_rfl)
    (of_decide_eq_true (by kernel_rfl)) (of_decide_eq_true (by kernel_rfl)) stops.symm rfl stopKnobs.symm (by kernel_rfl)
    (by kernel_rfl) (by kernel_rfl) (by kernel_rfl) (by kernel_rfl) (by kernel_rfl) (by kernel_rfl) (by kernel_rfl) (by kernel_rfl) (by kernel_rfl) rfl (by kernel_rfl) rfl rfl
    rfl rfl
    rfl (by kernel_rfl) (by kernel_rfl) (by kernel_rfl) (by decide) (by kernel_rfl)
    (OpenClaim.moreEntering_of (by kernel_rfl) (by kernel_rfl) (by kernel_rfl) (by kernel_rfl) (by kernel_rfl) (by kernel_rfl) (by kernel_rfl) (by kernel_rfl) (by kernel_rfl) (by kernel_rfl))
    ⟨_, WideRow.started_initial, quiet _⟩
    (fun os started _ H enc _ => lifted os started H enc)
end Go.Proofs.YbulkcoowFmt.lawS4520BChain
